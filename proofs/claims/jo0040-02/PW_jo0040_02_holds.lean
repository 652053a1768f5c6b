import PyProof.Rows.All
import Wide.All
import OpenK.AllK
import Wide.FinOn
import Lean
import PySem.Challenge.RW_jo0040_02
open PySem PySem.W PySem.Calls PyProof.Rows
set_option Elab.async false
set_option maxRecDepth 100000
set_option maxHeartbeats 8000000
set_option linter.all false
set_option genInjectivity false
set_option genSizeOfSpec false
namespace Mine
section
local macro_rules | `(tactic| o_head $_H:term) => `(tactic| (exfalso; assumption))
theorem kmake : False → PySem.Challenge.rw_jo0040_02.row.Holds := by
  intro h
  k_head
end

noncomputable def upd {α : Type} (f : Str → Option α) (k : Str) (v : α) : Str → Option α := fun x => if x = k then some v else f x
noncomputable def era {α : Type} (f : Str → Option α) (k : Str) : Str → Option α := fun x => if x = k then none else f x

theorem valueAt_stored {kvs : List (Str × Value)} {k x : Str} {v : Value} : valueAt (stored kvs k v) x = if x = k then some v else valueAt kvs x := by
  unfold stored
  split
  · rename_i h
    unfold valueAt
    induction kvs with
    | nil => simp at h
    | cons q r ih =>
      obtain ⟨a, b⟩ := q
      by_cases ha : a = k
      · subst ha
        by_cases hx : x = a
        · subst hx; simp
        · have hx' : ¬ a = x := fun e => hx e.symm
          simp only [List.map_cons, if_true, List.find?_cons, hx', decide_false, hx, if_false]
          clear ih h
          induction r with
          | nil => rfl
          | cons q r ih =>
            obtain ⟨c, d⟩ := q
            by_cases hc : c = a
            · subst hc; simp only [List.map_cons, if_true, List.find?_cons, hx', decide_false]; exact ih
            · by_cases hcx : c = x
              · subst hcx; simp [hc]
              · simp only [List.map_cons, hc, if_false, List.find?_cons, hcx, decide_false]; exact ih
      · have ih' := ih (by simpa [ha] using h)
        by_cases hax : a = x
        · subst hax; simp [ha]
        · simp only [List.map_cons, ha, if_false, List.find?_cons, hax, decide_false]; exact ih'
  · rename_i h
    unfold valueAt
    rw [List.find?_append]
    by_cases hx : x = k
    · subst hx
      have : kvs.find? (fun kv => decide (kv.1 = x)) = none := by
        rw [List.find?_eq_none]; intro q hq e
        exact h (List.any_eq_true.mpr ⟨q, hq, e⟩)
      rw [this]; simp
    · have hx' : ¬ k = x := fun e => hx e.symm
      cases q : kvs.find? (fun kv => decide (kv.1 = x)) with
      | none => simp [hx, hx']
      | some v => simp [hx]
theorem valueAt_without {kvs : List (Str × Value)} {k x : Str} : valueAt (without kvs k) x = if x = k then none else valueAt kvs x := by
  unfold without valueAt
  rw [List.find?_filter]
  by_cases hx : x = k
  · subst hx
    rw [if_pos rfl]
    have : kvs.find? (fun a => decide (decide (a.1 ≠ x) = true ∧ decide (a.1 = x) = true)) = none := by
      rw [List.find?_eq_none]; intro q _ e; simp at e
    rw [this]; rfl
  · rw [if_neg hx]
    congr 2
    funext q
    by_cases hq : q.1 = x
    · subst hq; simp [hx]
    · simp [hq]

noncomputable def IRel (kvs : List (Str × Value)) (f : Str → Option Int) : Prop := ∀ k, (f k = none ∧ valueAt kvs k = none) ∨ ∃ i t, f k = some i ∧ valueAt kvs k = some (.int i t)
noncomputable def IObj (prog : Program) (w : World) (o : Obj) (f : Str → Option Int) (c : Nat) : Prop := ∃ kvs, o.IsDictOf (strKind prog w) kvs ∧ kvs.length ≤ c ∧ IRel kvs f
theorem IRel.none {kvs f k} (h : IRel kvs f) (e : f k = none) : valueAt kvs k = none := by
  rcases h k with ⟨_, h⟩ | ⟨i, t, a, _⟩
  · exact h
  · rw [e] at a; cases a
theorem IRel.some {kvs f k i} (h : IRel kvs f) (e : f k = some i) : ∃ t, valueAt kvs k = some (.int i t) := by
  rcases h k with ⟨a, _⟩ | ⟨j, t, a, b⟩
  · rw [e] at a; cases a
  · rw [e] at a; cases a; exact ⟨t, b⟩
theorem IRel.put {kvs f k i t} (h : IRel kvs f) : IRel (stored kvs k (.int i t)) (upd f k i) := by
  intro x
  rw [valueAt_stored]
  unfold upd
  by_cases e : x = k
  · rw [if_pos e, if_pos e]; exact .inr ⟨i, t, rfl, rfl⟩
  · rw [if_neg e, if_neg e]; exact h x
theorem IRel.del {kvs f k} (h : IRel kvs f) : IRel (without kvs k) (era f k) := by
  intro x
  rw [valueAt_without]
  unfold era
  by_cases e : x = k
  · rw [if_pos e, if_pos e]; exact .inl ⟨rfl, rfl⟩
  · rw [if_neg e, if_neg e]; exact h x
theorem without_le (kvs : List (Str × Value)) (k : Str) : (without kvs k).length ≤ kvs.length := List.length_filter_le _ _
theorem IObj.le {prog w o f c c'} (h : IObj prog w o f c) (l : c ≤ c') : IObj prog w o f c' := let ⟨kvs, a, b, d⟩ := h; ⟨kvs, a, Nat.le_trans b l, d⟩

noncomputable def entryDict (w : World) (t1 t2 t3 t4 : Tok) (a x : Int) : List DictEntry :=
  [⟨PyData.keyHash w.params "atime", .str "atime" t1, .int a t2⟩, ⟨PyData.keyHash w.params "expiry", .str "expiry" t3, .int x t4⟩]
noncomputable def EntC : Addr := 568
noncomputable def StoC : Addr := 691
structure EntAt (w : World) (lg : List (Addr × Obj)) (v : Value) (a x : Int) : Prop where
  ex : ∃ e d t1 t2 t3 t4 n, v = .ref e ∧ (e, instObj EntC d) ∈ lg ∧ (d, dictOf (entryDict w t1 t2 t3 t4 a x) n) ∈ lg
inductive EntsAt (w : World) (lg : List (Addr × Obj)) : List Value → List (Int × Int) → Prop
  | nil : EntsAt w lg [] []
  | cons {v vs a x es} : EntAt w lg v a x → EntsAt w lg vs es → EntsAt w lg (v :: vs) ((a, x) :: es)
noncomputable def EvAt (w : World) (lg : List (Addr × Obj)) (v : Value) (es : List (Int × Int)) : Prop := ∃ l vs n, v = .ref l ∧ (l, ({ cls := .type "list", data := .seq vs.toArray n } : Obj)) ∈ lg ∧ EntsAt w lg vs es
noncomputable def VRel (w : World) (lg : List (Addr × Obj)) (kvs : List (Str × Value)) (f : Str → Option (List (Int × Int))) : Prop :=
  ∀ k, (f k = none ∧ valueAt kvs k = none) ∨ ∃ es v, f k = some es ∧ valueAt kvs k = some v ∧ EvAt w lg v es
noncomputable def VObj (prog : Program) (w : World) (lg : List (Addr × Obj)) (o : Obj) (f : Str → Option (List (Int × Int))) (c : Nat) : Prop :=
  ∃ kvs, o.IsDictOf (strKind prog w) kvs ∧ kvs.length ≤ c ∧ VRel w lg kvs f
theorem VObj.le {prog w lg o f c c'} (h : VObj prog w lg o f c) (l : c ≤ c') : VObj prog w lg o f c' := let ⟨kvs, a, b, d⟩ := h; ⟨kvs, a, Nat.le_trans b l, d⟩
theorem ex7 {A B C D E F G : Sort _} {P Q : A → B → C → D → E → F → G → Prop} (f : ∀ a b c d e f g, P a b c d e f g → Q a b c d e f g) : (∃ a b c d e f g, P a b c d e f g) → ∃ a b c d e f g, Q a b c d e f g
  | ⟨a, b, c, d, e, g, h, p⟩ => ⟨a, b, c, d, e, g, h, f a b c d e g h p⟩
theorem EntAt.more {w lg lg' v a x} (h : EntAt w lg v a x) (s : ∀ q ∈ lg, q ∈ lg') : EntAt w lg' v a x := ⟨ex7 (fun _ _ _ _ _ _ _ p => ⟨p.1, s _ p.2.1, s _ p.2.2⟩) h.ex⟩
theorem EntsAt.more {w lg lg' vs es} (h : EntsAt w lg vs es) (s : ∀ q ∈ lg, q ∈ lg') : EntsAt w lg' vs es := by
  induction h with
  | nil => exact .nil
  | cons a _ ih => exact .cons (a.more s) ih
theorem EvAt.more {w lg lg' v es} (h : EvAt w lg v es) (s : ∀ q ∈ lg, q ∈ lg') : EvAt w lg' v es := let ⟨l, vs, n, a, b, c⟩ := h; ⟨l, vs, n, a, s _ b, c.more s⟩
theorem VRel.more {w lg lg' kvs f} (h : VRel w lg kvs f) (s : ∀ q ∈ lg, q ∈ lg') : VRel w lg' kvs f := fun k => (h k).imp id fun ⟨es, v, a, b, c⟩ => ⟨es, v, a, b, c.more s⟩
theorem VObj.more {prog w lg lg' o f c} (h : VObj prog w lg o f c) (s : ∀ q ∈ lg, q ∈ lg') : VObj prog w lg' o f c := let ⟨kvs, a, b, d⟩ := h; ⟨kvs, a, b, d.more s⟩
theorem VRel.none {w lg kvs f k} (h : VRel w lg kvs f) (e : f k = none) : valueAt kvs k = none := by
  rcases h k with ⟨_, h⟩ | ⟨i, t, a, _⟩
  · exact h
  · rw [e] at a; cases a
theorem VRel.some {w lg kvs f k i} (h : VRel w lg kvs f) (e : f k = some i) : ∃ v, valueAt kvs k = some v ∧ EvAt w lg v i := by
  rcases h k with ⟨a, _⟩ | ⟨j, t, a, b⟩
  · rw [e] at a; cases a
  · rw [e] at a; cases a; exact ⟨t, b⟩
theorem VRel.put {w lg kvs f k v i} (h : VRel w lg kvs f) (hv : EvAt w lg v i) : VRel w lg (stored kvs k v) (upd f k i) := by
  intro x
  rw [valueAt_stored]
  unfold upd
  by_cases e : x = k
  · rw [if_pos e, if_pos e]; exact .inr ⟨i, v, rfl, rfl, hv⟩
  · rw [if_neg e, if_neg e]; exact h x
theorem VRel.del {w lg kvs f k} (h : VRel w lg kvs f) : VRel w lg (without kvs k) (era f k) := by
  intro x
  rw [valueAt_without]
  unfold era
  by_cases e : x = k
  · rw [if_pos e, if_pos e]; exact .inl ⟨rfl, rfl⟩
  · rw [if_neg e, if_neg e]; exact h x

structure ArOk (A : Around) (n : Nat) : Prop where
  d : A.depth + n < recursionLimit
  h : A.handled = none
  u : A.units + 4 * n + 20 < cLine
theorem ArOk.down {A : Around} {env : Env} {n k : Nat} (h : ArOk A n) (l : k + 1 ≤ n) : ArOk (A.deeper env) k :=
  ⟨by have := h.d; show A.depth + 1 + k < _; (first | lia | omega), h.h, by have := h.u; show A.units + 3 + _ + _ < _; (first | lia | omega)⟩
theorem ArOk.le {A : Around} {n k : Nat} (h : ArOk A n) (l : k ≤ n) : ArOk A k :=
  ⟨by have := h.d; (first | lia | omega), h.h, by have := h.u; (first | lia | omega)⟩

structure Ids where
  (lo st d ds de dv fc : Addr)
  (t1 t2 t3 t4 : Tok)
noncomputable def Ids.W (S : Ids) : List Addr := [S.ds, S.de, S.dv]
structure Ids.Ok (S : Ids) : Prop where
  n1 : @Ne Nat S.ds S.de
  n2 : @Ne Nat S.ds S.dv
  n3 : @Ne Nat S.de S.dv
  l1 : (S.ds == sysModules) = false
  l2 : (S.de == sysModules) = false
  l3 : (S.dv == sysModules) = false
  b1 : @LT.lt Nat _ S.lo S.ds
noncomputable abbrev stDict (w : World) (S : Ids) : List DictEntry :=
  [⟨PyData.keyHash w.params "clock", .str "clock" S.t1, .ref S.fc⟩, ⟨PyData.keyHash w.params "storage", .str "storage" S.t2, .ref S.ds⟩, ⟨PyData.keyHash w.params "expirations", .str "expirations" S.t3, .ref S.de⟩, ⟨PyData.keyHash w.params "events", .str "events" S.t4, .ref S.dv⟩]
noncomputable def Clk (prog : Program) (w : World) (g : Heap) (fc : Addr) (now : Int) : Prop :=
  ∀ (A : Around) (s : Shared) (Q E : Value → Shared → Prop), ArOk A 3 → (∀ b o, g.get? b = some o → s.heap.get? b = some o) →
    (∀ h' tk' t, (∀ b o, s.heap.get? b = some o → h'.get? b = some o) → Q (.int now t) { s with heap := h', toks := tk' }) → wpAny (model prog w) A (call (.ref fc) []) Q E s
structure StI (prog : Program) (w : World) (g : Heap) (S : Ids) (now : Int) : Prop where
  i1 : g.get? S.st = some (instObj 691 S.d)
  i2 : g.get? S.d = some (dictOf (stDict w S) 4)
  fn : ∃ c dd fd sl, g.get? S.fc = some ⟨c, dd, .func fd, sl⟩
  clk : Clk prog w g S.fc now
  bnd : 0 ≤ now ∧ now < 2 ^ 40
theorem StI.keeps {prog w g g' S now} (h : StI prog w g S now) (k : ∀ b o, g.get? b = some o → g'.get? b = some o) : StI prog w g' S now :=
  ⟨k _ _ h.i1, k _ _ h.i2, let ⟨c, dd, fd, sl, e⟩ := h.fn; ⟨c, dd, fd, sl, k _ _ e⟩, fun A s Q E hd hk hq => h.clk A s Q E hd (fun b o e => hk b o (k b o e)) hq, h.bnd⟩

structure Pre (prog : Program) (w : World) (K : Frag) (p : Program) (loose : List Str) (mg mb : Str → Option Value) (h : Heap) (S : Ids) (now : Int) (os oe ov : Obj) : Prop where
  ok : S.Ok
  X : K.In (hideAll h S.W)
  T : TopRead p loose mg mb (hideAll h S.W)
  I : StI prog w (hideAll h S.W) S now
  s : h.get? S.ds = some os
  e : h.get? S.de = some oe
  v : h.get? S.dv = some ov
structure Post (h h' : Heap) (S : Ids) (os oe ov : Obj) : Prop where
  keep : ∀ b o, (hideAll h S.W).get? b = some o → h'.get? b = some o
  s : h'.get? S.ds = some os
  e : h'.get? S.de = some oe
  v : h'.get? S.dv = some ov

theorem hidden {g h : Heap} {W : List Addr} (k : ∀ b o, g.get? b = some o → h.get? b = some o) (n : ∀ a ∈ W, g.get? a = none) : ∀ b o, g.get? b = some o → (hideAll h W).get? b = some o :=
  fun b o e => hideAll_get W (k b o e) fun hb => by rw [n b hb] at e; cases e

section
variable {prog : Program} {w : World} {K : Frag} {p : Program} {loose : List Str} {mg mb : Str → Option Value} {g h h' : Heap} {L : Addr} {m : Str → Option Value} {news : List (Addr × Obj)} {S : Ids} {now : Int} {os oe ov os' oe' ov' : Obj}
theorem W_none (N : News g L h news) (ms : (S.ds, os) ∈ news) (me : (S.de, oe) ∈ news) (mv : (S.dv, ov) ∈ news) : ∀ a ∈ S.W, g.get? a = none := by
  intro a ha
  simp only [Ids.W, List.mem_cons, List.not_mem_nil, or_false] at ha
  rcases ha with rfl | rfl | rfl
  · exact (N _ ms).2.2
  · exact (N _ me).2.2
  · exact (N _ mv).2.2
theorem pre_of (ok : S.Ok) (F : Fr g L h m) (N : News g L h news) (ms : (S.ds, os) ∈ news) (me : (S.de, oe) ∈ news) (mv : (S.dv, ov) ∈ news) (X : K.In g) (T : TopRead p loose mg mb g) (I : StI prog w g S now) :
    Pre prog w K p loose mg mb h S now os oe ov :=
  have k := hidden F.keep (W_none N ms me mv)
  ⟨ok, X.keeps k, T.keeps k, I.keeps k, (N _ ms).1, (N _ me).1, (N _ mv).1⟩
theorem post_exit (hg : hideAll h S.W = g) (F : Fr g L h' m) (N : News g L h' news) (ms : (S.ds, os') ∈ news) (me : (S.de, oe') ∈ news) (mv : (S.dv, ov') ∈ news) : Post h h' S os' oe' ov' :=
  ⟨fun b o e => F.keep b o (hg ▸ e), (N _ ms).1, (N _ me).1, (N _ mv).1⟩
theorem post_frame (F : Fr g L h m) (N : News g L h news) (ms : (S.ds, os) ∈ news) (me : (S.de, oe) ∈ news) (mv : (S.dv, ov) ∈ news) (P : Post h h' S os' oe' ov') : Fr g L h' m := by
  have hn := W_none N ms me mv
  have k := hidden F.keep hn
  obtain ⟨oL, es, ep, hL, r⟩ := F.ns
  have hLW : L ∉ S.W := by
    intro hL
    simp only [Ids.W, List.mem_cons, List.not_mem_nil, or_false] at hL
    rcases hL with e | e | e
    · exact (N _ ms).2.1 e.symm
    · exact (N _ me).2.1 e.symm
    · exact (N _ mv).2.1 e.symm
  exact ⟨⟨oL, es, ep, P.keep _ _ (hideAll_get _ hL hLW), r⟩, fun b o e => P.keep b o (k b o e), F.above⟩
theorem post_news {g1 : Obj → List (Addr × Obj)} {g2 : Obj → Obj → List (Addr × Obj)} {g3 : Obj → Obj → Obj → List (Addr × Obj)} (N : News g L h news) (ok : S.Ok)
    (U1 : UpdF S.ds os news g1) (U2 : ∀ x, UpdF S.de oe (g1 x) (g2 x)) (U3 : ∀ x y, UpdF S.dv ov (g2 x y) (g3 x y)) (P : Post h h' S os' oe' ov') : News g L h' (g3 os' oe' ov') := by
  obtain ⟨p1, q1, e1, f1, a1, b1⟩ := U1.split
  obtain ⟨p2, q2, e2, f2, a2, b2⟩ := (U2 os').split
  obtain ⟨p3, q3, e3, f3, a3, b3⟩ := (U3 os' oe').split
  rw [f3]
  intro q hq
  have base : ∀ q ∈ news, q.1 ∉ S.W → h'.get? q.1 = some q.2 ∧ q.1 ≠ L ∧ g.get? q.1 = none := fun q hq hn => ⟨P.keep _ _ (hideAll_get _ (N q hq).1 hn), (N q hq).2⟩
  have hS : S.ds ≠ L ∧ g.get? S.ds = none := (N (S.ds, os) (by rw [e1]; simp)).2
  have n1 : ∀ q ∈ g1 os', q.1 ≠ S.ds → q ∈ news := by
    intro q hq hne
    rw [f1] at hq; rw [e1]
    simp only [List.mem_append, List.mem_cons] at hq ⊢
    rcases hq with hq | rfl | hq
    · exact .inl hq
    · exact absurd rfl hne
    · exact .inr (.inr hq)
  have n2 : ∀ q ∈ g2 os' oe', q.1 ≠ S.de → q ∈ g1 os' := by
    intro q hq hne
    rw [f2] at hq; rw [e2]
    simp only [List.mem_append, List.mem_cons] at hq ⊢
    rcases hq with hq | rfl | hq
    · exact .inl hq
    · exact absurd rfl hne
    · exact .inr (.inr hq)
  have hE : S.de ≠ L ∧ g.get? S.de = none := by
    have := n1 (S.de, oe) (by rw [e2]; simp) (fun e => ok.n1 e.symm)
    exact (N _ this).2
  have hV : S.dv ≠ L ∧ g.get? S.dv = none := by
    have := n1 (S.dv, ov) (n2 _ (by rw [e3]; simp) (fun e => ok.n3 e.symm)) (fun e => ok.n2 e.symm)
    exact (N _ this).2
  have g1m : (S.ds, os') ∈ g1 os' := by rw [f1]; simp
  have uniq1 : ∀ q ∈ g1 os', q.1 = S.ds → q.2 = os' := by
    intro q hq e
    rw [f1] at hq
    simp only [List.mem_append, List.mem_cons] at hq
    rcases hq with hq | rfl | hq
    · exact absurd e (a1 q hq)
    · rfl
    · exact absurd e (b1 q hq)
  have uniq2 : ∀ q ∈ g2 os' oe', q.1 = S.de → q.2 = oe' := by
    intro q hq e
    rw [f2] at hq
    simp only [List.mem_append, List.mem_cons] at hq
    rcases hq with hq | rfl | hq
    · exact absurd e (a2 q hq)
    · rfl
    · exact absurd e (b2 q hq)
  have uniq3 : ∀ q ∈ p3 ++ (S.dv, ov') :: q3, q.1 = S.dv → q.2 = ov' := by
    intro q hq e
    simp only [List.mem_append, List.mem_cons] at hq
    rcases hq with hq | rfl | hq
    · exact absurd e (a3 q hq)
    · rfl
    · exact absurd e (b3 q hq)
  have n3 : ∀ q ∈ p3 ++ (S.dv, ov') :: q3, q.1 ≠ S.dv → q ∈ g2 os' oe' := by
    intro q hq hne
    rw [e3]
    simp only [List.mem_append, List.mem_cons] at hq ⊢
    rcases hq with hq | rfl | hq
    · exact .inl hq
    · exact absurd rfl hne
    · exact .inr (.inr hq)
  by_cases c3 : q.1 = S.dv
  · have := uniq3 q hq c3
    rw [c3, this]; exact ⟨P.v, hV⟩
  · have hq2 := n3 q hq c3
    by_cases c2 : q.1 = S.de
    · have := uniq2 q hq2 c2
      rw [c2, this]; exact ⟨P.e, hE⟩
    · have hq1 := n2 q hq2 c2
      by_cases c1 : q.1 = S.ds
      · have := uniq1 q hq1 c1
        rw [c1, this]; exact ⟨P.s, hS⟩
      · exact base q (n1 q hq1 c1) (by simp only [Ids.W, List.mem_cons, List.not_mem_nil, or_false, not_or]; exact ⟨c1, c2, c3⟩)
end

theorem own3 {S : Ids} {h : Heap} {os oe ov : Obj} (hs : h.get? S.ds = some os) (he : h.get? S.de = some oe) (hv : h.get? S.dv = some ov) : ∀ q ∈ [(S.ds, os), (S.de, oe), (S.dv, ov)], h.get? q.1 = some q.2 ∧ q.1 ∈ S.W := by
  intro q hq
  simp only [List.mem_cons, List.not_mem_nil, or_false] at hq
  rcases hq with rfl | rfl | rfl
  · exact ⟨hs, by simp [Ids.W]⟩
  · exact ⟨he, by simp [Ids.W]⟩
  · exact ⟨hv, by simp [Ids.W]⟩

section
variable {prog : Program} {w : World} {A : Around} {R : Result → Shared → Prop} {s : Shared} {Wl : List Addr} {K : Frag} {p : Program} {loose : List Str} {mg mb : Str → Option Value}
  {news : List (Addr × Obj)} {name qual : Str} {params : Arguments} {body : List Stmt} {scope : Scope} {dV kV doc pm cdv ct oc : Value} {an od : Option Addr} {osl : Array (Option Value)} {f : Addr} {args : Args} {binds : List (Str × Value)}

theorem enter (X : K.In (hideAll s.heap Wl)) (T : TopRead p loose mg mb (hideAll s.heap Wl))
    (N : ∀ q ∈ news, s.heap.get? q.1 = some q.2 ∧ q.1 ∈ Wl)
    (ho : K.lookup f = some ⟨oc, od, .func (fnOf name qual params body scope dV kV doc pm an cdv ct), osl⟩) (hcd : codeIn K cdv qual = true) (hroom : A.depth < recursionLimit)
    (hbind : BindsTo s (fnOf name qual params body scope dV kV doc pm an cdv ct) args binds) (hloc : ∀ y ∈ binds, scope.names.lookup y.1 = some .local)
    (h : ∀ L' h₁, Fr (hideAll s.heap Wl) L' h₁ (fun y => binds.reverse.lookup y) → News (hideAll s.heap Wl) L' h₁ news → (∀ q ∈ news, q.1 < L') →
      wpAny (model prog w) (A.deeper (envOf qual scope L' f cdv)) (execs body (envOf qual scope L' f cdv))
        (fun fl s' => R (.ok (.ret (match fl with | .ret v => v | _ => .none))) s')
        (fun e s' => wpAny (model prog w) (A.deeper (envOf qual scope L' f cdv)) (leaving (envOf qual scope L' f cdv) e) (fun _ s'' => R (.error e) s'') (fun e' s'' => R (.error e') s'') s')
        { s with heap := h₁, toks := s.toks + binds.length })
    (hco : scope.isCoroutine = false) (hgen : scope.isGenerator = false) (hk : scope.kind = .function)
    (hcell : ∀ x ∈ scope.names, x.2 ≠ .cell) : codeAny (model prog w) A (.call (.ref f) args) R s := by
  have st : (hideAll s.heap Wl).StaysIn s.heap := fun b o e => of_hideAll _ e
  have Xs : K.In s.heap := X.keeps st
  refine codeAny_call_def (fd := fnOf name qual params body scope dV kV doc pm an cdv ct) (body := body) (binds := binds) hroom (Xs _ _ ho) rfl (T.nolimit.keeps st) (codeRec_of Xs hcd) rfl hbind hcell hloc (fun h₁ hns hk₁ => ?_) hco hgen hk
  exact h s.heap.objs.size h₁ ⟨hns, fun b o e => hk₁ b o (of_hideAll _ e), Nat.le_of_eq (hideAll_size _ _)⟩
    (fun q hq => ⟨hk₁ _ _ (N q hq).1, Nat.ne_of_lt (Heap.lt_size (N q hq).1), hideAll_none _ (N q hq).2⟩) (fun q hq => Heap.lt_size (N q hq).1)
end

section
variable {prog : Program} {w : World} {A : Around} {E : Value → Shared → Prop} {s : Shared} {K : Frag} {x C dx L f : Addr} {h₀ : Heap} {m : Str → Option Value} {es : List DictEntry} {n : Nat} {name : Str} {v : Value}
theorem getOwnG {expr : Bool} {Q : Value → Shared → Prop} {attr : Option Value} (F : Fr h₀ L s.heap m) (X₀ : K.In h₀) (I1 : h₀.get? x = some (instObj C dx)) (I2 : h₀.get? dx = some (dictOf es n)) (hg : plainGet K C name = true) (hh : hasDictIn K C = true)
    (ha : findIn K (.ref C) name = some attr) (hn : noGet K attr = true) (hl : getL name es = some (some v)) (hv : handedIn v = true) (h : Q v { s with toks := s.toks + 1 }) :
    wpAny (model prog w) A (getAttr (.ref x) name expr) Q E s := get_own F X₀ ⟨F.keep _ _ I1, rfl, rfl, F.keep _ _ I2⟩ hg hh ha hn hl hv h
theorem kmuOwnG {pl : Sem Bool} {Q : Value × List Value → Shared → Prop} (F : Fr h₀ L s.heap m) (X₀ : K.In h₀) (I1 : h₀.get? x = some (instObj C dx)) (I2 : h₀.get? dx = some (dictOf es n)) (hg : plainGet K C name = true) (hf : findIn K (.ref C) name = some none)
    (h : wpAny (model prog w) A (getAttr (.ref x) name) (fun v => Q (v, [])) E s) : wpAny (model prog w) A (getMethod (.ref x) name pl) Q E s :=
  kmu_own F X₀ ⟨F.keep _ _ I1, rfl, rfl, F.keep _ _ I2⟩ hg hf h
theorem methG {pl : Sem Bool} {Q : Value × List Value → Shared → Prop} (F : Fr h₀ L s.heap m) (X₀ : K.In h₀) (I1 : h₀.get? x = some (instObj C dx)) (I2 : h₀.get? dx = some (dictOf es n)) (hg : plainGet K C name = true)
    (hf : findIn K (.ref C) name = some (some (.ref f))) (ht : isFn K (.ref f) = true) (hl : getL name es = some none) (h : Q (.ref f, [.ref x]) s) : wpAny (model prog w) A (getMethod (.ref x) name pl) Q E s :=
  method_inst F X₀ ⟨F.keep _ _ I1, rfl, rfl, F.keep _ _ I2⟩ hg hf ht hl h
end

section
variable {M : Model} {A : Around} {E : Value → Shared → Prop} {s : Shared} {g : Heap} {L fc : Addr} {m : Str → Option Value} {env : Env} {pos : Pos} {Q : Value → Shared → Prop} {c : Value} {dd : Option Addr} {fd : FuncData} {sl : Array (Option Value)}
theorem callFn0 (F : Fr g L s.heap m) (hfc : g.get? fc = some ⟨c, dd, .func fd, sl⟩) (h : wpAny M A (call (.ref fc) []) Q E s) : wpAny M A (callWith pos (.ref fc) [] (backTo pos (starEach [] env)) []) Q E s :=
  callWith_of (P := fun h => h.get? fc = some ⟨c, dd, .func fd, sl⟩) rfl (fun _ hX => ⟨.frame, .inl rfl, (Looks.ld (part := none) hX).andThen .now⟩) (evalArgs_nil3 ⟨F.keep _ _ hfc, h⟩)
end

section
variable {prog : Program} {w : World} {A : Around} {E : Value → Shared → Prop} {s : Shared} {h₀ : Heap} {L d : Addr} {m : Str → Option Value} {news : List (Addr × Obj)} {g : Obj → List (Addr × Obj)} {o : Obj} {kvs : List (Str × Value)} {k : Str} {t : Tok} {v dflt : Value} {Q : Value → Shared → Prop}

theorem clk_use {gh : Heap} {S : Ids} {now : Int} (C : StI prog w gh S now) (F : Fr gh L s.heap m) (N : News gh L s.heap news) (hd : ArOk A 3)
   (h : ∀ h' tk' t, Fr gh L h' m → News gh L h' news → Q (.int now t) { s with heap := h', toks := tk' }) : wpAny (model prog w) A (call (.ref S.fc) []) Q E s :=
  C.clk A s Q E hd F.keep fun h' tk' t k => h h' tk' t ⟨F.ns.keeps k, fun b o e => k b o (F.keep b o e), F.above⟩ fun q hq => ⟨k _ _ (N q hq).1, (N q hq).2⟩

theorem dictOf_news (N : News h₀ L s.heap news) (hm : (d, o) ∈ news) (hd : o.IsDictOf (strKind prog w) kvs) : s.heap.DictOf (strKind prog w) d kvs := Heap.dictOf_iff.mpr ⟨o, (N _ hm).1, hd⟩

noncomputable def dm4 (n : Str) : Option String := if n = "get" then some "dict.get" else if n = "pop" then some "dict.pop" else if n = "setdefault" then some "dict.setdefault" else if n = "keys" then some "dict.keys" else none
theorem dMeth {name : Str} {id : String} {pl : Sem Bool} {Q : Value × List Value → Shared → Prop} (N : News h₀ L s.heap news) (hm : (d, o) ∈ news) (hd : o.IsDictOf (strKind prog w) kvs)
    (hid : dm4 name = some id) (h : Q (.builtin id, [.ref d]) s) : wpAny (model prog w) A (getMethod (.ref d) name pl) Q E s := by
  have hD := dictOf_news N hm hd
  unfold dm4 at hid
  split at hid
  · rename_i e; subst e; cases hid; exact getMethod_builtin hD.typeIs PySem.F.plainAttrs_dict PySem.F.slot_dict_get PySem.F.type_dict_get hD.mapOf.noDict h
  split at hid
  · rename_i e; subst e; cases hid; exact getMethod_builtin hD.typeIs PySem.F.plainAttrs_dict PySem.F.slot_dict_pop PySem.F.type_dict_pop hD.mapOf.noDict h
  split at hid
  · rename_i e; subst e; cases hid; exact getMethod_builtin hD.typeIs PySem.F.plainAttrs_dict PySem.F.slot_dict_setdefault PySem.F.type_dict_setdefault hD.mapOf.noDict h
  split at hid
  · rename_i e; subst e; cases hid; exact getMethod_builtin hD.typeIs PySem.F.plainAttrs_dict PySem.F.slot_dict_keys PySem.F.type_dict_keys hD.mapOf.noDict h
  · cases hid

theorem dGet2 (N : News h₀ L s.heap news) (hm : (d, o) ∈ news) (hd : o.IsDictOf (strKind prog w) kvs) (lo : (d == sysModules) = false) (hv : (valueAt kvs k).getD dflt = v)
    (h : Q v { s with toks := s.toks + 1 }) : wpAny (model prog w) A (call (.builtin "dict.get") [.ref d, .str k t, dflt]) Q E s := by
  have hD := dictOf_news N hm hd
  subst hv
  exact call_meetsIn PySem.F.slot_dict_get hD.typeIs PySem.F.entry_dict_get (PySem.F.args_dict_get_3 _ _ _) (meets_dict_get_default (strKind prog w) d (strKind_is prog w k t) lo dflt) ⟨_, hD.mapOf, h⟩
theorem dGetS (N : News h₀ L s.heap news) (hm : (d, o) ∈ news) (hd : o.IsDictOf (strKind prog w) kvs) (lo : (d == sysModules) = false) (hv : valueAt kvs k = some v)
    (h : Q v { s with toks := s.toks + 1 }) : wpAny (model prog w) A (call (.builtin "dict.get") [.ref d, .str k t, dflt]) Q E s := dGet2 N hm hd lo (by rw [hv]; rfl) h
theorem dGetN (N : News h₀ L s.heap news) (hm : (d, o) ∈ news) (hd : o.IsDictOf (strKind prog w) kvs) (lo : (d == sysModules) = false) (hv : valueAt kvs k = none)
    (h : Q dflt { s with toks := s.toks + 1 }) : wpAny (model prog w) A (call (.builtin "dict.get") [.ref d, .str k t, dflt]) Q E s := dGet2 N hm hd lo (by rw [hv]; rfl) h

theorem dItem (N : News h₀ L s.heap news) (hm : (d, o) ∈ news) (hd : o.IsDictOf (strKind prog w) kvs) (hv : valueAt kvs k = some v)
    (h : Q v { s with toks := s.toks + 1 }) : wpAny (model prog w) A (getItem (.ref d) (.str k t)) Q E s :=
  wpAny_getItem_of (strKind_is prog w k t) (dictOf_news N hm hd).mapOf hv h
theorem dTail {value slice : PySem.Expr} (N : News h₀ L s.heap news) (hm : (d, o) ∈ news) (hd : o.IsDictOf (strKind prog w) kvs) (h : wpAny (model prog w) A (getItem (.ref d) (.str k t)) Q E s)
    (hs : subscripted slice false (.ref d) (.str k t) = operate [.ref d, .str k t] (getItem (.ref d) (.str k t)) := by with_unfolding_all rfl) : wpAny (model prog w) A (subscriptTail value slice (.ref d) (.str k t)) Q E s :=
  tail_any (dictOf_news N hm hd).typeIs slot_dict_getitem.lookup h hs
theorem dSet {Q : Unit → Shared → Prop} (F : Fr h₀ L s.heap m) (N : News h₀ L s.heap news) (U : UpdF d o news g) (hd : o.IsDictOf (strKind prog w) kvs)
    (h : ∀ h' o', Fr h₀ L h' m → News h₀ L h' (g o') → o'.IsDictOf (strKind prog w) (stored kvs k v) → Q () { s with heap := h', toks := s.toks + 1 })
    (hsz : kvs.length ≤ sizeLine) : wpAny (model prog w) A (setItem (.ref d) (.str k t) v) Q E s := by
  obtain ⟨pre, post, rfl, hg, a, b⟩ := U.split
  have hm := N (d, o) (List.mem_append_right _ (.head _))
  refine wpAny_setItem_pairs (hsz := hsz) (strKind_is prog w k t) (Heap.dictOf_iff.mpr ⟨o, hm.1, hd⟩) fun h' hmm hs => ?_
  obtain ⟨o', ho', hd'⟩ := Heap.dictOf_iff.mp hmm
  exact h h' o' (F.change hs hm.2.1 hm.2.2) (hg o' ▸ N.setIn a b hs ho') hd'

theorem without_none (kvs : List (Str × Value)) (k : Str) (h : valueAt kvs k = none) : without kvs k = kvs := by
  unfold without
  unfold valueAt at h
  rw [List.filter_eq_self]
  intro a ha
  rw [Option.map_eq_none_iff, List.find?_eq_none] at h
  have := h a ha
  simpa using this

theorem dPop (F : Fr h₀ L s.heap m) (N : News h₀ L s.heap news) (U : UpdF d o news g) (hd : o.IsDictOf (strKind prog w) kvs) (lo : (d == sysModules) = false)
    (h : ∀ h' o', Fr h₀ L h' m → News h₀ L h' (g o') → o'.IsDictOf (strKind prog w) (without kvs k) → Q ((valueAt kvs k).getD .none) { s with heap := h', toks := s.toks + 1 }) (hsz : kvs.length ≤ sizeLine) :
    wpAny (model prog w) A (call (.builtin "dict.pop") [.ref d, .str k t, .none]) Q E s := by
  obtain ⟨pre, post, rfl, hg, a, b⟩ := U.split
  have hm := N (d, o) (List.mem_append_right _ (.head _))
  have hD : s.heap.DictOf (strKind prog w) d kvs := Heap.dictOf_iff.mpr ⟨o, hm.1, hd⟩
  cases hv : valueAt kvs k with
  | some v =>
    rw [hv] at h
    refine call_meetsIn PySem.F.slot_dict_pop hD.typeIs PySem.F.entry_dict_pop (PySem.F.args_dict_pop_3 _ _ _) (meets_dict_pop_there (strKind prog w) d (strKind_is prog w k t) [.none] (.inr ⟨_, rfl⟩) rfl) ⟨kvs, v, hD, hsz, hv, fun h' hmm hs => ?_⟩
    obtain ⟨o', ho', hd'⟩ := Heap.dictOf_iff.mp hmm
    exact h h' o' (F.change hs hm.2.1 hm.2.2) (hg o' ▸ N.setIn a b hs ho') hd'
  | none =>
    rw [hv] at h
    refine call_meetsIn PySem.F.slot_dict_pop hD.typeIs PySem.F.entry_dict_pop (PySem.F.args_dict_pop_3 _ _ _) (meets_dict_pop_default (strKind prog w) d (strKind_is prog w k t) lo rfl .none) ⟨kvs, hD, hv, ?_⟩
    exact h s.heap o F ((hg o).symm ▸ N) ((without_none kvs k hv).symm ▸ hd)


theorem line_of {n c : Nat} (h : n ≤ c) (hc : c ≤ 1000000) : n ≤ sizeLine := by rw [sizeLine_eq]; (first | lia | omega)

theorem dMethI {f : Str → Option Int} {c : Nat} {name : Str} {id : String} {pl : Sem Bool} {Q : Value × List Value → Shared → Prop} (N : News h₀ L s.heap news) (hm : (d, o) ∈ news) (hI : IObj prog w o f c)
    (hid : dm4 name = some id) (h : Q (.builtin id, [.ref d]) s) : wpAny (model prog w) A (getMethod (.ref d) name pl) Q E s :=
  let ⟨_, hd, _⟩ := hI; dMeth N hm hd hid h
theorem dGetI {f : Str → Option Int} {c : Nat} {i0 : Int} {t0 : Tok} (N : News h₀ L s.heap news) (hm : (d, o) ∈ news) (hI : IObj prog w o f c) (lo : (d == sysModules) = false)
    (h : ∀ t', Q (.int ((f k).getD i0) t') { s with toks := s.toks + 1 }) : wpAny (model prog w) A (call (.builtin "dict.get") [.ref d, .str k t, .int i0 t0]) Q E s := by
  obtain ⟨kvs, hd, _, r⟩ := hI
  cases e : f k with
  | none => rw [e] at h; exact dGetN N hm hd lo (r.none e) (h t0)
  | some i =>
    rw [e] at h
    obtain ⟨t', hv⟩ := r.some e
    exact dGetS N hm hd lo hv (h t')
theorem dItemI {f : Str → Option Int} {c : Nat} {i : Int} (N : News h₀ L s.heap news) (hm : (d, o) ∈ news) (hI : IObj prog w o f c) (hv : f k = some i)
    (h : ∀ t', Q (.int i t') { s with toks := s.toks + 1 }) : wpAny (model prog w) A (getItem (.ref d) (.str k t)) Q E s := by
  obtain ⟨kvs, hd, _, r⟩ := hI
  obtain ⟨t', hv⟩ := r.some hv
  exact dItem N hm hd hv (h t')
theorem dTailI {f : Str → Option Int} {c : Nat} {value slice : PySem.Expr} (N : News h₀ L s.heap news) (hm : (d, o) ∈ news) (hI : IObj prog w o f c) (h : wpAny (model prog w) A (getItem (.ref d) (.str k t)) Q E s)
    (hs : subscripted slice false (.ref d) (.str k t) = operate [.ref d, .str k t] (getItem (.ref d) (.str k t)) := by with_unfolding_all rfl) : wpAny (model prog w) A (subscriptTail value slice (.ref d) (.str k t)) Q E s :=
  let ⟨_, hd, _⟩ := hI; dTail N hm hd h hs
theorem dSetI {f : Str → Option Int} {c : Nat} {i : Int} {t0 : Tok} {Q : Unit → Shared → Prop} (F : Fr h₀ L s.heap m) (N : News h₀ L s.heap news) (U : UpdF d o news g) (hI : IObj prog w o f c) (hc : c ≤ 1000000)
    (h : ∀ h' o', Fr h₀ L h' m → News h₀ L h' (g o') → IObj prog w o' (upd f k i) (c + 1) → Q () { s with heap := h', toks := s.toks + 1 }) : wpAny (model prog w) A (setItem (.ref d) (.str k t) (.int i t0)) Q E s := by
  obtain ⟨kvs, hd, l, r⟩ := hI
  exact dSet F N U hd (fun h' o' F' N' hd' => h h' o' F' N' ⟨_, hd', Nat.le_trans (stored_length_le _ _ _) (Nat.add_le_add_right l 1), r.put⟩) (line_of l hc)
theorem dPopI {f : Str → Option Int} {c : Nat} (F : Fr h₀ L s.heap m) (N : News h₀ L s.heap news) (U : UpdF d o news g) (hI : IObj prog w o f c) (lo : (d == sysModules) = false) (hc : c ≤ 1000000)
    (h : ∀ h' o' v, Fr h₀ L h' m → News h₀ L h' (g o') → IObj prog w o' (era f k) c → Q v { s with heap := h', toks := s.toks + 1 }) :
    wpAny (model prog w) A (call (.builtin "dict.pop") [.ref d, .str k t, .none]) Q E s := by
  obtain ⟨kvs, hd, l, r⟩ := hI
  exact dPop F N U hd lo (fun h' o' F' N' hd' => h h' o' _ F' N' ⟨_, hd', Nat.le_trans (without_le _ _) l, r.del⟩) (line_of l hc)

theorem dMethV {lg : List (Addr × Obj)} {f : Str → Option (List (Int × Int))} {c : Nat} {name : Str} {id : String} {pl : Sem Bool} {Q : Value × List Value → Shared → Prop} (N : News h₀ L s.heap news) (hm : (d, o) ∈ news) (hI : VObj prog w lg o f c)
    (hid : dm4 name = some id) (h : Q (.builtin id, [.ref d]) s) : wpAny (model prog w) A (getMethod (.ref d) name pl) Q E s :=
  let ⟨_, hd, _⟩ := hI; dMeth N hm hd hid h
theorem dPopV {lg : List (Addr × Obj)} {f : Str → Option (List (Int × Int))} {c : Nat} (F : Fr h₀ L s.heap m) (N : News h₀ L s.heap news) (U : UpdF d o news g) (hI : VObj prog w lg o f c) (lo : (d == sysModules) = false) (hc : c ≤ 1000000)
    (h : ∀ h' o' v, Fr h₀ L h' m → News h₀ L h' (g o') → VObj prog w lg o' (era f k) c → Q v { s with heap := h', toks := s.toks + 1 }) :
    wpAny (model prog w) A (call (.builtin "dict.pop") [.ref d, .str k t, .none]) Q E s := by
  obtain ⟨kvs, hd, l, r⟩ := hI
  exact dPop F N U hd lo (fun h' o' F' N' hd' => h h' o' _ F' N' ⟨_, hd', Nat.le_trans (without_le _ _) l, r.del⟩) (line_of l hc)
end


section
variable {prog : Program} {w : World} {A : Around} {E : Value → Shared → Prop} {s : Shared} {K : Frag} {x C dx L p : Addr} {h₀ : Heap} {m : Str → Option Value} {es : List DictEntry} {n : Nat} {name : Str} {news : List (Addr × Obj)}
theorem kmuCmG {pl : Sem Bool} {Q : Value × List Value → Shared → Prop} {fv : Value} {rest : List Value} (F : Fr h₀ L s.heap m) (X₀ : K.In h₀) (N : News h₀ L s.heap news) (I1 : h₀.get? x = some (instObj C dx)) (I2 : h₀.get? dx = some (dictOf es n)) (hg : plainGet K C name = true) (hh : hasDictIn K C = true)
    (ha : findIn K (.ref C) name = some (some (.ref p))) (ht : typeIn K (.ref p) = some (.type "classmethod"))
    (hgf : specialIn K (.ref p) "__get__" = some (some (.builtin "classmethod.__get__"))) (hts : takesIn K (.ref p) = some false) (hc : copiedNames.contains name = false) (hl : getL name es = some none) (hp : recIn K p "classmethod" = some (fv :: rest))
    (h : ∀ q h', Fr h₀ L h' m → News h₀ L h' ((q, methodObj fv (.ref C)) :: news) → (∀ r ∈ news, r.1 < q) → Q (.ref q, []) { s with heap := h', toks := s.toks + 1 }) : wpAny (model prog w) A (getMethod (.ref x) name pl) Q E s :=
  kmu_cm F X₀ N ⟨F.keep _ _ I1, rfl, rfl, F.keep _ _ I2⟩ hg hh ha ht hgf hts hc hl hp h
end
theorem fresh_ne {g h : Heap} {L tp : Addr} {news : List (Addr × Obj)} (N : News g L h news) (hn : h.get? tp = none) : ∀ q ∈ news, @Ne Nat q.1 tp := fun q hq e => by
  have := (N q hq).1; rw [show q.1 = tp from e, hn] at this; cases this
theorem fresh_news {g h h' : Heap} {L tp : Addr} {m : Str → Option Value} {news : List (Addr × Obj)} {o : Obj} (F : Fr g L h m) (N' : News g L h' news) (hn : h.get? tp = none) (ho : h'.get? tp = some o) : News g L h' ((tp, o) :: news) := by
  intro q hq
  rcases List.mem_cons.mp hq with rfl | hq
  · refine ⟨ho, fun e => ?_, ?_⟩
    · obtain ⟨oL, _, _, hL, _⟩ := F.ns
      rw [← show tp = L from e, hn] at hL; cases hL
    · cases q : g.get? tp with
      | none => rfl
      | some o => have := F.keep _ _ q; rw [hn] at this; cases this
  · exact N' q hq
theorem kept_frame {g h h' : Heap} {L : Addr} {m : Str → Option Value} (F : Fr g L h m) (k : ∀ b o, h.get? b = some o → h'.get? b = some o) : Fr g L h' m :=
  ⟨F.ns.keeps k, fun b o e => k b o (F.keep b o e), F.above⟩
theorem kept_news {g h h' : Heap} {L : Addr} {news : List (Addr × Obj)} (N : News g L h news) (k : ∀ b o, h.get? b = some o → h'.get? b = some o) : News g L h' news :=
  fun q hq => ⟨k _ _ (N q hq).1, (N q hq).2⟩
theorem new_of {h h' g : Heap} {L tp : Addr} {news : List (Addr × Obj)} {S : Ids} {o os' oe' ov' : Obj} (hg : hideAll h S.W = g) (N : News g L h' news) (hm : (tp, o) ∈ news)
    (ms : (S.ds, os') ∈ news) (me : (S.de, oe') ∈ news) (mv : (S.dv, ov') ∈ news) (n1 : o ≠ os') (n2 : o ≠ oe') (n3 : o ≠ ov') : h.get? tp = none := by
  have d : ∀ {a o'}, (a, o') ∈ news → o ≠ o' → tp ≠ a := fun {a o'} hm' hne e => by
    subst e
    have := (N _ hm).1; rw [(N _ hm').1] at this
    exact hne (Option.some.inj this).symm
  cases q : h.get? tp with
  | none => rfl
  | some x =>
    have hW : tp ∉ S.W := by
      simp only [Ids.W, List.mem_cons, List.not_mem_nil, or_false, not_or]
      exact ⟨d ms n1, d me n2, d mv n3⟩
    have := hideAll_get S.W q hW
    rw [hg] at this
    rw [(N _ hm).2.2] at this; cases this
theorem IObj.cls {prog w o f c} (h : IObj prog w o f c) : o.cls = .type "dict" := let ⟨_, ⟨_, _, a, _⟩, _⟩ := h; a.1
theorem VObj.cls {prog w lg o f c} (h : VObj prog w lg o f c) : o.cls = .type "dict" := let ⟨_, ⟨_, _, a, _⟩, _⟩ := h; a.1
theorem ne_of_cls {o o' : Obj} {T : String} (h : o'.cls = .type "dict") (ho : o.cls = .type T) (hT : T ≠ "dict") : o ≠ o' := fun e => by rw [e, h] at ho; exact hT (Value.type.inj ho).symm
noncomputable abbrev tupO (vs : List Value) : Obj := { cls := .type "tuple", data := .seq vs.toArray 0 }
noncomputable def dig (i : Int) : Str := Str.ofString (toString i)
theorem dig_len {i : Int} (h1 : -(2 ^ 40) < i) (h2 : i < 2 ^ 40) : (dig i).length ≤ 20 := by
  unfold dig
  rw [PySem.ofString_length]
  exact Nat.le_trans (int_text_length_le10 (k := 19) (by decide) (by have : (10:Nat) ^ 19 = 10000000000000000000 := by decide
                                                                     (first | lia | omega))) (by decide)
theorem fmtI {prog : Program} {w : World} {A : Around} {E : Value → Shared → Prop} {s : Shared} {i : Int} {t : Tok} {Q : Value → Shared → Prop} (h1 : -(2 ^ 40) < i) (h2 : i < 2 ^ 40)
    (h : (dig i).length ≤ 20 → ∀ t', Q (.str (dig i) t') { s with toks := s.toks + 1 + 1 }) : wpAny (model prog w) A (formatField (.int i t) Str.empty) Q E s := by
  refine wpAny_formatField_int ?_ (h (dig_len h1 h2) _)
  by_cases hz : i.natAbs = 0
  · rw [hz]; decide
  · rw [Nat.log2_lt hz]
    exact Nat.lt_of_lt_of_le (by (first | lia | omega) : i.natAbs < 2 ^ 40) (Nat.pow_le_pow_right (by decide) (by decide))
theorem slk_one : (Str.ofString "/").length = 1 := by decide
noncomputable def slk (key : Str) (i : Int) : Str := Str.empty ++ key ++ Str.ofString "/" ++ dig i
theorem fdiv_bnd {x e : Int} (h0 : 0 < e) (hx : 0 ≤ x) : 0 ≤ x.fdiv e ∧ x.fdiv e ≤ x := by
  rw [Int.fdiv_eq_ediv_of_nonneg _ (Int.le_of_lt h0)]
  exact ⟨Int.ediv_nonneg hx (Int.le_of_lt h0), Int.ediv_le_self _ hx⟩
theorem fmod_bnd {x e : Int} (h0 : 0 < e) : 0 ≤ x.fmod e ∧ x.fmod e < e := by
  rw [Int.fmod_eq_emod_of_nonneg _ (Int.le_of_lt h0)]
  exact ⟨Int.emod_nonneg _ (by (first | lia | omega)), Int.emod_lt_of_pos _ h0⟩
theorem cn0 {P q r : Prop} (h : (P ∧ q) ∧ r) : P := h.1.1
theorem cn1 {p1 P q r : Prop} (h : (p1 ∧ P ∧ q) ∧ r) : P := h.1.2.1
theorem cn2 {p1 p2 P r : Prop} (h : (p1 ∧ p2 ∧ P) ∧ r) : P := h.1.2.2
theorem an0 {P q : Prop} (h : P ∧ q) : P := h.1
theorem an1 {p1 P q : Prop} (h : p1 ∧ P ∧ q) : P := h.2.1
theorem bn1 {p1 P : Prop} (h : p1 ∧ P) : P := h.2
theorem an2 {p1 p2 P q : Prop} (h : p1 ∧ p2 ∧ P ∧ q) : P := h.2.2.1
theorem bn2 {p1 p2 P : Prop} (h : p1 ∧ p2 ∧ P) : P := h.2.2
theorem an3 {p1 p2 p3 P q : Prop} (h : p1 ∧ p2 ∧ p3 ∧ P ∧ q) : P := h.2.2.2.1
theorem bn3 {p1 p2 p3 P : Prop} (h : p1 ∧ p2 ∧ p3 ∧ P) : P := h.2.2.2
theorem an4 {p1 p2 p3 p4 P q : Prop} (h : p1 ∧ p2 ∧ p3 ∧ p4 ∧ P ∧ q) : P := h.2.2.2.2.1
theorem bn4 {p1 p2 p3 p4 P : Prop} (h : p1 ∧ p2 ∧ p3 ∧ p4 ∧ P) : P := h.2.2.2.2
theorem an5 {p1 p2 p3 p4 p5 P q : Prop} (h : p1 ∧ p2 ∧ p3 ∧ p4 ∧ p5 ∧ P ∧ q) : P := h.2.2.2.2.2.1
theorem bn5 {p1 p2 p3 p4 p5 P : Prop} (h : p1 ∧ p2 ∧ p3 ∧ p4 ∧ p5 ∧ P) : P := h.2.2.2.2.2
theorem an6 {p1 p2 p3 p4 p5 p6 P q : Prop} (h : p1 ∧ p2 ∧ p3 ∧ p4 ∧ p5 ∧ p6 ∧ P ∧ q) : P := h.2.2.2.2.2.2.1
theorem bn6 {p1 p2 p3 p4 p5 p6 P : Prop} (h : p1 ∧ p2 ∧ p3 ∧ p4 ∧ p5 ∧ p6 ∧ P) : P := h.2.2.2.2.2.2
theorem an7 {p1 p2 p3 p4 p5 p6 p7 P q : Prop} (h : p1 ∧ p2 ∧ p3 ∧ p4 ∧ p5 ∧ p6 ∧ p7 ∧ P ∧ q) : P := h.2.2.2.2.2.2.2.1
theorem bn7 {p1 p2 p3 p4 p5 p6 p7 P : Prop} (h : p1 ∧ p2 ∧ p3 ∧ p4 ∧ p5 ∧ p6 ∧ p7 ∧ P) : P := h.2.2.2.2.2.2.2
theorem an8 {p1 p2 p3 p4 p5 p6 p7 p8 P q : Prop} (h : p1 ∧ p2 ∧ p3 ∧ p4 ∧ p5 ∧ p6 ∧ p7 ∧ p8 ∧ P ∧ q) : P := h.2.2.2.2.2.2.2.2.1
theorem bn8 {p1 p2 p3 p4 p5 p6 p7 p8 P : Prop} (h : p1 ∧ p2 ∧ p3 ∧ p4 ∧ p5 ∧ p6 ∧ p7 ∧ p8 ∧ P) : P := h.2.2.2.2.2.2.2.2
theorem an9 {p1 p2 p3 p4 p5 p6 p7 p8 p9 P q : Prop} (h : p1 ∧ p2 ∧ p3 ∧ p4 ∧ p5 ∧ p6 ∧ p7 ∧ p8 ∧ p9 ∧ P ∧ q) : P := h.2.2.2.2.2.2.2.2.2.1
noncomputable def sGet (fs fe : Str → Option Int) (now : Int) (key : Str) : (Str → Option Int) × (Str → Option Int) × Int :=
  if (fe key).getD 0 ≤ now then (era fs key, era fe key, (era fs key key).getD 0) else (fs, fe, (fs key).getD 0)
theorem sGet_val {fs fe now key} : ((sGet fs fe now key).1 key).getD 0 = (sGet fs fe now key).2.2 := by
  unfold sGet; split <;> rfl
noncomputable def GetC (K : Frag) (prog : Program) (w : World) : Prop :=
  ∀ (p : Program) (loose : List Str) (mg mb : Str → Option Value) (S : Ids) (now : Int) (os oe ov : Obj) (A : Around) (s : Shared) (key : Str) (t5 : Tok) (fs fe : Str → Option Int) (c : Nat) (Q E : Value → Shared → Prop),
    Pre prog w K p loose mg mb s.heap S now os oe ov → IObj prog w os fs c → IObj prog w oe fe c → c ≤ 100000 → ArOk A 10 →
    (∀ h' tk' t os' oe', Post s.heap h' S os' oe' ov → IObj prog w os' (sGet fs fe now key).1 c → IObj prog w oe' (sGet fs fe now key).2.1 c → Q (.int (sGet fs fe now key).2.2 t) { s with heap := h', toks := tk' }) →
    wpAny (model prog w) A (call (.ref 616) [.ref S.st, .str key t5]) Q E s
section
variable {prog : Program} {w : World} {A : Around} {E : Value → Shared → Prop} {s : Shared} {K : Frag} {g : Heap} {L : Addr} {m : Str → Option Value} {news : List (Addr × Obj)} {p : Program} {loose : List Str} {mg mb : Str → Option Value}
  {g1 : Obj → List (Addr × Obj)} {g2 : Obj → Obj → List (Addr × Obj)} {g3 : Obj → Obj → Obj → List (Addr × Obj)} {S : Ids} {now : Int} {os oe ov : Obj} {fs fe : Str → Option Int} {fv : Str → Option (List (Int × Int))} {c : Nat} {key : Str} {t5 : Tok} {Q : Value → Shared → Prop}
theorem get_use (C : GetC K prog w) (ok : S.Ok) (F : Fr g L s.heap m) (N : News g L s.heap news) (ms : (S.ds, os) ∈ news) (me : (S.de, oe) ∈ news) (mv : (S.dv, ov) ∈ news)
    (U1 : UpdF S.ds os news g1) (U2 : ∀ x, UpdF S.de oe (g1 x) (g2 x)) (U3 : ∀ x y, UpdF S.dv ov (g2 x y) (g3 x y)) (X : K.In g) (T : TopRead p loose mg mb g) (I : StI prog w g S now)
    (hS : IObj prog w os fs c) (hE : IObj prog w oe fe c) (hc : c ≤ 100000) (hd : ArOk A 10)
    (ret : ∀ h' tk' t os' oe', Fr g L h' m → News g L h' (g3 os' oe' ov) → IObj prog w os' (sGet fs fe now key).1 c → IObj prog w oe' (sGet fs fe now key).2.1 c → Q (.int (sGet fs fe now key).2.2 t) { s with heap := h', toks := tk' }) :
    wpAny (model prog w) A (call (.ref 616) [.ref S.st, .str key t5]) Q E s :=
  C p loose mg mb S now os oe ov A s key t5 fs fe c Q E (pre_of ok F N ms me mv X T I) hS hE hc hd fun h' tk' t os' oe' P a b => ret h' tk' t os' oe' (post_frame F N ms me mv P) (post_news N ok U1 U2 U3 P) a b
end

noncomputable def sIncr (fs fe : Str → Option Int) (now : Int) (key : Str) (expiry amount : Int) : (Str → Option Int) × (Str → Option Int) × Int :=
  let g := sGet fs fe now key
  if (g.1 key).getD 0 + amount = amount then (upd g.1 key ((g.1 key).getD 0 + amount), upd g.2.1 key (now + expiry), ((upd g.1 key ((g.1 key).getD 0 + amount)) key).getD 0) else (upd g.1 key ((g.1 key).getD 0 + amount), g.2.1, ((upd g.1 key ((g.1 key).getD 0 + amount)) key).getD 0)
noncomputable abbrev Sm (i : Int) : Prop := -(2 ^ 40) < i ∧ i < 2 ^ 40
noncomputable def IncrC (K : Frag) (prog : Program) (w : World) : Prop :=
  ∀ (p : Program) (loose : List Str) (mg mb : Str → Option Value) (S : Ids) (now : Int) (os oe ov : Obj) (A : Around) (s : Shared) (key : Str) (t5 t6 t7 : Tok) (expiry amount : Int) (fs fe : Str → Option Int) (c : Nat) (Q E : Value → Shared → Prop),
    Pre prog w K p loose mg mb s.heap S now os oe ov → IObj prog w os fs c → IObj prog w oe fe c → c ≤ 90000 → ArOk A 15 →
    (∀ h' tk' t os' oe', Post s.heap h' S os' oe' ov → IObj prog w os' (sIncr fs fe now key expiry amount).1 (c + 1) → IObj prog w oe' (sIncr fs fe now key expiry amount).2.1 (c + 1) →
      Q (.int (sIncr fs fe now key expiry amount).2.2 t) { s with heap := h', toks := tk' }) →
    wpAny (model prog w) A (call (.ref 601) [.ref S.st, .str key t5, .int expiry t6] [("amount", .int amount t7)]) Q E s

noncomputable def ClearC (K : Frag) (prog : Program) (w : World) : Prop :=
  ∀ (p : Program) (loose : List Str) (mg mb : Str → Option Value) (S : Ids) (now : Int) (os oe ov : Obj) (A : Around) (s : Shared) (key : Str) (t5 : Tok) (fs fe : Str → Option Int) (fv : Str → Option (List (Int × Int))) (lg : List (Addr × Obj)) (c : Nat) (Q E : Value → Shared → Prop),
    Pre prog w K p loose mg mb s.heap S now os oe ov → IObj prog w os fs c → IObj prog w oe fe c → VObj prog w lg ov fv c → c ≤ 100000 → ArOk A 10 →
    (∀ h' tk' os' oe' ov', Post s.heap h' S os' oe' ov' → IObj prog w os' (era fs key) c → IObj prog w oe' (era fe key) c → VObj prog w lg ov' (era fv key) c → Q .none { s with heap := h', toks := tk' }) →
    wpAny (model prog w) A (call (.ref 623) [.ref S.st, .str key t5]) Q E s
noncomputable def GetExpC (K : Frag) (prog : Program) (w : World) : Prop :=
  ∀ (p : Program) (loose : List Str) (mg mb : Str → Option Value) (S : Ids) (now : Int) (os oe ov : Obj) (A : Around) (s : Shared) (key : Str) (t5 : Tok) (fe : Str → Option Int) (c : Nat) (Q E : Value → Shared → Prop),
    Pre prog w K p loose mg mb s.heap S now os oe ov → IObj prog w oe fe c → c ≤ 100000 → ArOk A 10 →
    (∀ h' tk' t, Post s.heap h' S os oe ov → Q (.int ((fe key).getD now) t) { s with heap := h', toks := tk' }) →
    wpAny (model prog w) A (call (.ref 638) [.ref S.st, .str key t5]) Q E s

noncomputable def KeysC (K : Frag) (prog : Program) (w : World) : Prop :=
  ∀ (p : Program) (loose : List Str) (mg mb : Str → Option Value) (A : Around) (s : Shared) (key : Str) (expiry at_ : Int) (t1 t2 t3 : Tok) (R : Result → Shared → Prop),
   K.In s.heap → TopRead p loose mg mb s.heap → 0 < expiry → expiry ≤ at_ → at_ < 2 ^ 30 → key.length ≤ 1000 → ArOk A 10 →
   (∀ h' tk' tp u1 u2, (∀ b o, s.heap.get? b = some o → h'.get? b = some o) → s.heap.get? tp = none →
      h'.get? tp = some (tupO [.str (slk key ((at_ - expiry).fdiv expiry)) u1, .str (slk key (at_.fdiv expiry)) u2]) → R (.ok (.ret (.ref tp))) { s with heap := h', toks := tk' }) →
   codeAny (model prog w) A (.call (.ref 534) ⟨[.ref 691, .str key t1, .int expiry t2, .int at_ t3], []⟩) R s
theorem keys_use {prog : Program} {w : World} {A : Around} {E : Value → Shared → Prop} {s : Shared} {K : Frag} {g : Heap} {L q : Addr} {m : Str → Option Value} {news : List (Addr × Obj)} {p : Program} {loose : List Str} {mg mb : Str → Option Value}
   {key : Str} {expiry at_ : Int} {t1 t2 t3 : Tok} {Q : Value → Shared → Prop} (C : KeysC K prog w) (F : Fr g L s.heap m) (N : News g L s.heap news) (hq : (q, methodObj (.ref 534) (.ref 691)) ∈ news) (X : K.In g) (T : TopRead p loose mg mb g)
   (h0 : 0 < expiry) (h1 : expiry ≤ at_) (h2 : at_ < 2 ^ 30) (hk : key.length ≤ 1000) (hd : ArOk A 10)
   (ret : ∀ h' tk' tp u1 u2, Fr g L h' m → News g L h' ((tp, tupO [.str (slk key ((at_ - expiry).fdiv expiry)) u1, .str (slk key (at_.fdiv expiry)) u2]) :: news) → (∀ p ∈ news, @Ne Nat p.1 tp) → Q (.ref tp) { s with heap := h', toks := tk' }) :
   wpAny (model prog w) A (call (.ref q) [.str key t1, .int expiry t2, .int at_ t3]) Q E s :=
  wpAny_call (method_call (N _ hq).1 (C p loose mg mb A s key expiry at_ t1 t2 t3 _ (X.keeps F.keep) (T.keeps F.keep) h0 h1 h2 hk hd fun h' tk' tp u1 u2 k hn ho =>
    ret h' tk' tp u1 u2 (kept_frame F k) (fresh_news F (kept_news N k) hn ho) (fresh_ne N hn)))

noncomputable def sInfo (fs fe : Str → Option Int) (now : Int) (pk ck : Str) : (Str → Option Int) × (Str → Option Int) :=
  let g1 := sGet fs fe now pk
  let g2 := sGet g1.1 g1.2.1 now ck
  (g2.1, g2.2.1)
noncomputable def iPc (fs fe : Str → Option Int) (now : Int) (pk : Str) : Int := (sGet fs fe now pk).2.2
noncomputable def iCc (fs fe : Str → Option Int) (now : Int) (pk ck : Str) : Int := (sGet (sGet fs fe now pk).1 (sGet fs fe now pk).2.1 now ck).2.2
noncomputable def iPt (fs fe : Str → Option Int) (now : Int) (pk : Str) (expiry : Int) : Int := if iPc fs fe now pk = 0 then 0 else expiry - (now - expiry).fmod expiry
noncomputable def iCt (now expiry : Int) : Int := expiry - now.fmod expiry + expiry
noncomputable def InfoC (K : Frag) (prog : Program) (w : World) : Prop :=
  ∀ (p : Program) (loose : List Str) (mg mb : Str → Option Value) (S : Ids) (now : Int) (os oe ov : Obj) (A : Around) (s : Shared) (pk ck : Str) (expiry : Int) (t1 t2 t3 t4 : Tok) (fs fe : Str → Option Int) (c : Nat) (Q E : Value → Shared → Prop),
    Pre prog w K p loose mg mb s.heap S now os oe ov → ov.cls = .type "dict" → IObj prog w os fs c → IObj prog w oe fe c → c ≤ 100000 → 0 < expiry → ArOk A 15 →
    (∀ h' tk' os' oe' tp u1 u2 u3 u4, Post s.heap h' S os' oe' ov → IObj prog w os' (sInfo fs fe now pk ck).1 c → IObj prog w oe' (sInfo fs fe now pk ck).2 c → s.heap.get? tp = none →
      h'.get? tp = some (tupO [.int (iPc fs fe now pk) u1, .int (iPt fs fe now pk expiry) u2, .int (iCc fs fe now pk ck) u3, .int (iCt now expiry) u4]) → Q (.ref tp) { s with heap := h', toks := tk' }) →
    wpAny (model prog w) A (call (.ref 660) [.ref S.st, .str pk t1, .str ck t2, .int expiry t3, .int now t4]) Q E s

section
variable {prog : Program} {w : World} {A : Around} {E : Value → Shared → Prop} {s : Shared} {K : Frag} {g : Heap} {L : Addr} {m : Str → Option Value} {news : List (Addr × Obj)} {p : Program} {loose : List Str} {mg mb : Str → Option Value}
  {g1 : Obj → List (Addr × Obj)} {g2 : Obj → Obj → List (Addr × Obj)} {g3 : Obj → Obj → Obj → List (Addr × Obj)} {S : Ids} {now : Int} {os oe ov : Obj} {fs fe : Str → Option Int} {fv : Str → Option (List (Int × Int))} {c : Nat} {Q : Value → Shared → Prop}
theorem info_use {pk ck : Str} {expiry : Int} {t1 t2 t3 t4 : Tok} (C : InfoC K prog w) (ok : S.Ok) (F : Fr g L s.heap m) (N : News g L s.heap news) (ms : (S.ds, os) ∈ news) (me : (S.de, oe) ∈ news) (mv : (S.dv, ov) ∈ news)
    (U1 : UpdF S.ds os news g1) (U2 : ∀ x, UpdF S.de oe (g1 x) (g2 x)) (U3 : ∀ x y, UpdF S.dv ov (g2 x y) (g3 x y)) (X : K.In g) (T : TopRead p loose mg mb g) (I : StI prog w g S now) (hV : ov.cls = .type "dict")
    (hS : IObj prog w os fs c) (hE : IObj prog w oe fe c) (hc : c ≤ 100000) (h0 : 0 < expiry) (hd : ArOk A 15)
    (ret : ∀ h' tk' os' oe' tp u1 u2 u3 u4, Fr g L h' m → News g L h' ((tp, tupO [.int (iPc fs fe now pk) u1, .int (iPt fs fe now pk expiry) u2, .int (iCc fs fe now pk ck) u3, .int (iCt now expiry) u4]) :: g3 os' oe' ov) → (∀ q ∈ news, @Ne Nat q.1 tp) →
      IObj prog w os' (sInfo fs fe now pk ck).1 c → IObj prog w oe' (sInfo fs fe now pk ck).2 c → Q (.ref tp) { s with heap := h', toks := tk' }) :
    wpAny (model prog w) A (call (.ref 660) [.ref S.st, .str pk t1, .str ck t2, .int expiry t3, .int now t4]) Q E s :=
  C p loose mg mb S now os oe ov A s pk ck expiry t1 t2 t3 t4 fs fe c Q E (pre_of ok F N ms me mv X T I) hV hS hE hc h0 hd fun h' tk' os' oe' tp u1 u2 u3 u4 P a b hn ho =>
    ret h' tk' os' oe' tp u1 u2 u3 u4 (post_frame F N ms me mv P) (fresh_news F (post_news N ok U1 U2 U3 P) hn ho) (fresh_ne N hn) a b
theorem incr_use {key : Str} {t5 t6 t7 : Tok} {expiry amount : Int} (C : IncrC K prog w) (ok : S.Ok) (F : Fr g L s.heap m) (N : News g L s.heap news) (ms : (S.ds, os) ∈ news) (me : (S.de, oe) ∈ news) (mv : (S.dv, ov) ∈ news)
    (U1 : UpdF S.ds os news g1) (U2 : ∀ x, UpdF S.de oe (g1 x) (g2 x)) (U3 : ∀ x y, UpdF S.dv ov (g2 x y) (g3 x y)) (X : K.In g) (T : TopRead p loose mg mb g) (I : StI prog w g S now)
    (hS : IObj prog w os fs c) (hE : IObj prog w oe fe c) (hc : c ≤ 90000) (hd : ArOk A 15)
    (ret : ∀ h' tk' t os' oe', Fr g L h' m → News g L h' (g3 os' oe' ov) → IObj prog w os' (sIncr fs fe now key expiry amount).1 (c + 1) → IObj prog w oe' (sIncr fs fe now key expiry amount).2.1 (c + 1) → Q (.int (sIncr fs fe now key expiry amount).2.2 t) { s with heap := h', toks := tk' }) :
    wpAny (model prog w) A (call (.ref 601) [.ref S.st, .str key t5, .int expiry t6] [("amount", .int amount t7)]) Q E s :=
  C p loose mg mb S now os oe ov A s key t5 t6 t7 expiry amount fs fe c Q E (pre_of ok F N ms me mv X T I) hS hE hc hd fun h' tk' t os' oe' P a b => ret h' tk' t os' oe' (post_frame F N ms me mv P) (post_news N ok U1 U2 U3 P) a b
theorem clear_use {key : Str} {t5 : Tok} {lg : List (Addr × Obj)} (C : ClearC K prog w) (ok : S.Ok) (F : Fr g L s.heap m) (N : News g L s.heap news) (ms : (S.ds, os) ∈ news) (me : (S.de, oe) ∈ news) (mv : (S.dv, ov) ∈ news)
    (U1 : UpdF S.ds os news g1) (U2 : ∀ x, UpdF S.de oe (g1 x) (g2 x)) (U3 : ∀ x y, UpdF S.dv ov (g2 x y) (g3 x y)) (X : K.In g) (T : TopRead p loose mg mb g) (I : StI prog w g S now)
    (hS : IObj prog w os fs c) (hE : IObj prog w oe fe c) (hV : VObj prog w lg ov fv c) (hc : c ≤ 100000) (hd : ArOk A 10)
    (ret : ∀ h' tk' os' oe' ov', Fr g L h' m → News g L h' (g3 os' oe' ov') → IObj prog w os' (era fs key) c → IObj prog w oe' (era fe key) c → VObj prog w lg ov' (era fv key) c → Q .none { s with heap := h', toks := tk' }) :
    wpAny (model prog w) A (call (.ref 623) [.ref S.st, .str key t5]) Q E s :=
  C p loose mg mb S now os oe ov A s key t5 fs fe fv lg c Q E (pre_of ok F N ms me mv X T I) hS hE hV hc hd fun h' tk' os' oe' ov' P a b d => ret h' tk' os' oe' ov' (post_frame F N ms me mv P) (post_news N ok U1 U2 U3 P) a b d
end
noncomputable abbrev kP (key : Str) (now expiry : Int) : Str := slk key ((now - expiry).fdiv expiry)
noncomputable abbrev kC (key : Str) (now expiry : Int) : Str := slk key (now.fdiv expiry)
noncomputable def GetSwC (K : Frag) (prog : Program) (w : World) : Prop :=
  ∀ (p : Program) (loose : List Str) (mg mb : Str → Option Value) (S : Ids) (now : Int) (os oe ov : Obj) (A : Around) (s : Shared) (key : Str) (expiry : Int) (t1 t2 : Tok) (fs fe : Str → Option Int) (c : Nat) (Q E : Value → Shared → Prop),
    Pre prog w K p loose mg mb s.heap S now os oe ov → ov.cls = .type "dict" → IObj prog w os fs c → IObj prog w oe fe c → c ≤ 100000 → 0 < expiry → expiry ≤ now → now < 2 ^ 30 → key.length ≤ 1000 → ArOk A 20 →
    (∀ h' tk' os' oe' tp u1 u2 u3 u4, Post s.heap h' S os' oe' ov → IObj prog w os' (sInfo fs fe now (kP key now expiry) (kC key now expiry)).1 c → IObj prog w oe' (sInfo fs fe now (kP key now expiry) (kC key now expiry)).2 c → s.heap.get? tp = none →
      h'.get? tp = some (tupO [.int (iPc fs fe now (kP key now expiry)) u1, .int (iPt fs fe now (kP key now expiry) expiry) u2, .int (iCc fs fe now (kP key now expiry) (kC key now expiry)) u3, .int (iCt now expiry) u4]) → Q (.ref tp) { s with heap := h', toks := tk' }) →
    wpAny (model prog w) A (call (.ref 667) [.ref S.st, .str key t1, .int expiry t2]) Q E s
noncomputable def ClearSwC (K : Frag) (prog : Program) (w : World) : Prop :=
  ∀ (p : Program) (loose : List Str) (mg mb : Str → Option Value) (S : Ids) (now : Int) (os oe ov : Obj) (A : Around) (s : Shared) (key : Str) (expiry : Int) (t1 t2 : Tok) (fs fe : Str → Option Int) (fv : Str → Option (List (Int × Int))) (lg : List (Addr × Obj)) (c : Nat) (Q E : Value → Shared → Prop),
    Pre prog w K p loose mg mb s.heap S now os oe ov → IObj prog w os fs c → IObj prog w oe fe c → VObj prog w lg ov fv c → c ≤ 100000 → 0 < expiry → expiry ≤ now → now < 2 ^ 30 → key.length ≤ 1000 → ArOk A 20 →
    (∀ h' tk' os' oe' ov', Post s.heap h' S os' oe' ov' → IObj prog w os' (era (era fs (kP key now expiry)) (kC key now expiry)) c → IObj prog w oe' (era (era fe (kP key now expiry)) (kC key now expiry)) c → VObj prog w lg ov' (era (era fv (kP key now expiry)) (kC key now expiry)) c → Q .none { s with heap := h', toks := tk' }) →
    wpAny (model prog w) A (call (.ref 674) [.ref S.st, .str key t1, .int expiry t2]) Q E s

noncomputable def iW (fs fe : Str → Option Int) (now : Int) (pk ck : Str) (expiry : Int) : Int := (iPc fs fe now pk * iPt fs fe now pk expiry).fdiv expiry + iCc fs fe now pk ck
noncomputable def sAcqSw (fs fe : Str → Option Int) (now : Int) (pk ck : Str) (limit expiry amount : Int) : (Str → Option Int) × (Str → Option Int) × Bool :=
  if limit < amount then (fs, fe, false)
  else if limit < iW fs fe now pk ck expiry + amount then ((sInfo fs fe now pk ck).1, (sInfo fs fe now pk ck).2, false)
  else ((sIncr (sInfo fs fe now pk ck).1 (sInfo fs fe now pk ck).2 now ck (2 * expiry) amount).1, (sIncr (sInfo fs fe now pk ck).1 (sInfo fs fe now pk ck).2 now ck (2 * expiry) amount).2.1, true)
noncomputable def AcqSwC (K : Frag) (prog : Program) (w : World) : Prop :=
  ∀ (p : Program) (loose : List Str) (mg mb : Str → Option Value) (S : Ids) (now : Int) (os oe ov : Obj) (A : Around) (s : Shared) (key : Str) (limit expiry amount : Int) (t1 t2 t3 t4 : Tok) (fs fe : Str → Option Int) (c : Nat) (Q E : Value → Shared → Prop),
    Pre prog w K p loose mg mb s.heap S now os oe ov → ov.cls = .type "dict" → IObj prog w os fs c → IObj prog w oe fe c → c ≤ 90000 → 0 < expiry → expiry ≤ now → now < 2 ^ 30 → key.length ≤ 1000 →
    (∀ k i, fs k = some i → 0 ≤ i ∧ i < 2 ^ 30) → ArOk A 20 →
    (∀ h' tk' os' oe', Post s.heap h' S os' oe' ov → IObj prog w os' (sAcqSw fs fe now (kP key now expiry) (kC key now expiry) limit expiry amount).1 (c + 1) → IObj prog w oe' (sAcqSw fs fe now (kP key now expiry) (kC key now expiry) limit expiry amount).2.1 (c + 1) →
      Q (.bool (sAcqSw fs fe now (kP key now expiry) (kC key now expiry) limit expiry amount).2.2) { s with heap := h', toks := tk' }) →
    wpAny (model prog w) A (call (.ref 653) [.ref S.st, .str key t1, .int limit t2, .int expiry t3, .int amount t4]) Q E s
theorem sGet_bnd {fs fe now k} (h : ∀ k i, fs k = some i → 0 ≤ i ∧ i < 2 ^ 30) : (∀ x i, (sGet fs fe now k).1 x = some i → 0 ≤ i ∧ i < 2 ^ 30) ∧ 0 ≤ (sGet fs fe now k).2.2 ∧ (sGet fs fe now k).2.2 < 2 ^ 30 := by
  have e : ∀ x i, (sGet fs fe now k).1 x = some i → 0 ≤ i ∧ i < 2 ^ 30 := by
    intro x i hx
    unfold sGet at hx
    split at hx
    · simp only [era] at hx
      split at hx
      · cases hx
      · exact h x i hx
    · exact h x i hx
  refine ⟨e, ?_⟩
  rw [← sGet_val]
  cases q : (sGet fs fe now k).1 k with
  | none => decide
  | some i => exact e _ _ q
theorem sGet_again {fs fe now k} (h0 : 0 ≤ now) : (sGet (sGet fs fe now k).1 (sGet fs fe now k).2.1 now k).2.2 = (sGet fs fe now k).2.2 := by
  unfold sGet
  by_cases c : (fe k).getD 0 ≤ now
  · simp only [c, if_true]
    have : (era fe k k).getD 0 ≤ now := by simp [era, h0]
    simp only [this, if_true]
    simp [era]
  · simp only [c, if_false]
theorem sIncr_val {fs fe now k x a} (h0 : 0 ≤ now) : (sIncr (sGet fs fe now k).1 (sGet fs fe now k).2.1 now k x a).2.2 = (sGet fs fe now k).2.2 + a := by
  have e : ((sGet (sGet fs fe now k).1 (sGet fs fe now k).2.1 now k).1 k).getD 0 = (sGet fs fe now k).2.2 := by rw [sGet_val, sGet_again h0]
  unfold sIncr
  dsimp only
  split <;> simp [upd, e]

section
variable {prog : Program} {w : World} {A : Around} {E : Value → Shared → Prop} {s : Shared}
theorem lst_idx {value slice : PySem.Expr} {l : Addr} {vs : List Value} {k : Int} {u : Tok} {Q : Value → Shared → Prop} (hA : A.handled = none) (hl : s.heap.IsList l vs.toArray) (h0 : 0 ≤ k) (hk : k < 2 ^ 40)
    (hin : ∀ v, vs[k.toNat]? = some v → Q v s)
    (hout : vs[k.toNat]? = none → ∀ h' tk e, Heap.NewExc s.heap h' e "IndexError" → E (.ref e) { s with heap := h', toks := tk })
    (hs : subscripted slice false (.ref l) (.int k u) = operate [.ref l, .int k u] (getItem (.ref l) (.int k u)) := by with_unfolding_all rfl) (hg : ∀ r, letTemporaryGo value (.ref l) r = pure () := by intro _; with_unfolding_all rfl) :
    wpAny (model prog w) A (subscriptTail value slice (.ref l) (.int k u)) Q E s := by
  cases hv : vs[k.toNat]? with
  | some v => exact item_listL hl h0 (by (first | lia | omega)) hv (hin v hv) hs hg
  | none =>
    have hlen := List.getElem?_eq_none_iff.mp hv
    exact subscriptTail_builtin hl.typeIs slot_list_getitem.lookup (wpAny_getItem_list_out hA hl (by rw [List.size_toArray]; (first | lia | omega)) (by (first | lia | omega)) (by (first | lia | omega)) (hout hv)) hs hg
end

section
variable {prog : Program} {w : World} {A₀ : Around} {E : Value → Shared → Prop} {s' : Shared} {base g h : Heap} {outer : List Env} {L a e : Addr} {m : Str → Option Value} {name : Str} {scope : Scope} {cd : Value}
  {b₀ : Stmt} {suite : List Stmt} {pos np : Pos} {rest : List ExceptHandler} {Q : Flow → Shared → Prop} {news : List (Addr × Obj)} {KF : Frag}
  {p : Program} {loose : List Str} {mg mb : Str → Option Value} {x : Str} {X T' : String}

theorem caught_new (K : Below A₀ base outer g) (hx : Heap.NewExc h s'.heap e X) (F : Fr g L h m) (N : News g L h news) (XB : KF.In base) (TB : TopRead p loose mg mb base)
    (ex : nsIn KF mainGlobals x = some none) (hv : bootBuiltins x = some (.type T')) (hn' : x ≠ "__name__")
    (hexc : isSubtype (.type T') (.type "BaseException") = pure true) (hnt : isSubtype (.type ((Manifest.find? T').elim "type" fun y => y.metatype)) (.type "tuple") = pure false) (hsub : isSubtype (.type X) (.type T') = pure true)
    (k : ∀ h' g', KtsTurn (outer.filterMap (·.frame)) g g' → Fr g' L h' m → News g' L h' news → Below A₀ base outer g' →
      wpAny (model prog w) ((A₀.deeper (envOf name scope L a cd)).mark (some (.ref e))) (execs (b₀ :: suite) (envOf name scope L a cd)) Q E { s' with heap := h' })
    (hk : scope.kind = .function := by rfl) (hkx : (envOf name scope L a cd).kindOf x = some .globalImplicit := by rfl) (hd : (x == ("__debug__" : Str)) = false := by decide)
    (hE : PassesOwnAt (model prog w) ((A₀.deeper (envOf name scope L a cd)).mark (some (.ref e))) (A₀.deeper (envOf name scope L a cd)) (envOf name scope L a cd) E := by passes_own) :
    wpAny (model prog w) (A₀.deeper (envOf name scope L a cd)) (noteFrame (.ref e) (envOf name scope L a cd))
      (fun _ s₂ => wpAny (model prog w) (A₀.deeper (envOf name scope L a cd)) (setFlight (.ref e) none) (fun _ s₃ =>
        wpAny (model prog w) (A₀.deeper (envOf name scope L a cd)) (handleBy (.ref e) (envOf name scope L a cd) (.ExceptHandler (some (.Name x np)) none (b₀ :: suite) pos :: rest)) Q E s₃) E s₂) E s' := by
  have K' := K.push (name := name) (a := a) (cd := cd) F hk
  have hin : ∀ env ∈ (envOf name scope L a cd :: outer), ∀ b, env.frame = some b → b ∈ (envOf name scope L a cd :: outer).filterMap (·.frame) := fun env he b hb => List.mem_filterMap.mpr ⟨env, he, hb⟩
  have hl : ∀ q ∈ news, (hideAll h ((envOf name scope L a cd :: outer).filterMap (·.frame))).get? q.1 = some q.2 := fun q hq => by
    refine hideAll_get _ (N q hq).1 fun hm => ?_
    obtain ⟨env, he, hf⟩ := List.mem_filterMap.mp hm
    rcases List.mem_cons.mp he with rfl | he
    · exact (N q hq).2.1 (Option.some.inj hf).symm
    · obtain ⟨o, ho, _⟩ := (K.frames.mem (List.mem_filterMap.mpr ⟨env, he, hf⟩)).2
      rw [(N q hq).2.2] at ho; cases ho
  obtain ⟨ob, tp, he, hcls, hdd⟩ := hx.there
  have hen : (hideAll h ((envOf name scope L a cd :: outer).filterMap (·.frame))).get? e = none := by
    cases q : (hideAll h ((envOf name scope L a cd :: outer).filterMap (·.frame))).get? e with
    | none => rfl
    | some o => have := of_hideAll _ q; rw [hx.new] at this; cases this
  have hL : (hideAll h ((envOf name scope L a cd :: outer).filterMap (·.frame))).get? L = none := hideAll_none _ (List.mem_filterMap.mpr ⟨_, .head _, rfl⟩)
  have hff : s'.heap.FunFrames (hideAll h ((envOf name scope L a cd :: outer).filterMap (·.frame))) (envOf name scope L a cd :: outer) := (funFrames_hide K'.frames hin).of_keeps fun b o hb _ => ⟨o, hx.keeps b o hb, rfl⟩
  have note : wpAny (model prog w) (A₀.deeper (envOf name scope L a cd)) (noteFrame (.ref e) (envOf name scope L a cd)) (fun _ s₂ => ∃ h₄, s₂ = { s' with heap := h₄ } ∧ Heap.NotedW (hideAll h ((envOf name scope L a cd :: outer).filterMap (·.frame))) (envOf name scope L a cd :: outer) e ob.cls tp (rawInt L) s'.heap h₄) E s' := by
    unfold noteFrame
    simp only [show (envOf name scope L a cd).frame = some L from rfl]
    refine wpAny_bind (wpAny_field he hdd (x := .none) rfl ?_)
    rw [if_neg (by decide)]
    exact wpAny_entryW (a0 := tp) K'.stack hff rfl he (fun b o hb => hx.keeps b o (of_hideAll _ hb)) hen hdd (by show 1 < 6; decide) rfl fun h₄ hN => ⟨h₄, rfl, hN⟩
  refine wpAny_mono note (fun _ s₂ hs₂ => ?_) fun _ _ q => q
  obtain ⟨h₄, rfl, k1, k2, k3, k4⟩ := hs₂
  have hsm₄ := (Heap.UpToSlots.of_keeps hx.keeps).trans k4
  rw [hcls] at k3
  refine wpAny_landsW (s := { s' with heap := h₄ }) (⟨k1, hen, k2, k3⟩ : Heap.HeldW _ _ e _ tp L h₄) fun h₅ hheld hsm₅' => ?_
  have hsm₅ := hsm₄.trans hsm₅'
  obtain ⟨g₅, T₅, F₅, K₅⟩ := kts_ground (name := name) (scope := scope) (a := a) (cd := cd) K F (fun b o q nm => hideAll_get _ q nm) hheld.1 hsm₅
  have X₅ : KF.In g₅ := XB.keeps K₅.stays
  have P₅ : TopRead p loose mg mb g₅ := TB.keeps K₅.stays
  obtain ⟨ob₅, hob, hobc⟩ := hheld.there
  refine wpAny_handleBy_builtin (X := X) (T := T') (b := true) hexc hnt hsub (name_B F₅ X₅ P₅ ex hv hn' ⟨rfl, ⟨ob₅, hob, hobc⟩, ?_⟩ hk hkx hd)
  refine lands_againW hheld fun h₆ hfl₆ hsm₆ => ?_
  obtain ⟨g₆, T₆, F₆, K₆⟩ := kts_ground (name := name) (scope := scope) (a := a) (cd := cd) K F (fun b o q nm => hideAll_get _ q nm) hfl₆.1 (hsm₅.trans hsm₆)
  exact wpAny_passesOwnAt hE (k h₆ g₆ T₆ F₆ (fun q hq => ⟨hfl₆.1 _ _ (hl q hq), (N q hq).2.1, T₆.none_ _ (N q hq).2.2⟩) K₆)
end

section
variable {prog : Program} {w : World} {A : Around} {E : Value → Shared → Prop} {s : Shared} {h₀ : Heap} {L d : Addr} {m : Str → Option Value} {news : List (Addr × Obj)} {g : Obj → List (Addr × Obj)} {o : Obj} {kvs : List (Str × Value)} {k : Str} {t : Tok} {v dflt : Value} {Q : Value → Shared → Prop}
theorem dSdThere (N : News h₀ L s.heap news) (hp : (d, o) ∈ news) (hd : o.IsDictOf (strKind prog w) kvs) (lo : (d == sysModules) = false) (hl : valueAt kvs k = some v) (hsz : kvs.length ≤ sizeLine) (h : Q v { s with toks := s.toks + 1 }) :
    wpAny (model prog w) A (call (.builtin "dict.setdefault") [.ref d, .str k t, dflt]) Q E s :=
  kob_setdef_there N hp hd lo (strKind_is prog w k t) (PySem.F.args_dict_setdefault_3 _ _ _) hl hsz h
theorem dSdNew (F : Fr h₀ L s.heap m) (N : News h₀ L s.heap news) (U : UpdF d o news g) (hd : o.IsDictOf (strKind prog w) kvs) (lo : (d == sysModules) = false) (hl : valueAt kvs k = none) (hsz : kvs.length ≤ sizeLine)
    (h : ∀ h' o', Fr h₀ L h' m → News h₀ L h' (g o') → o'.IsDictOf (strKind prog w) (stored kvs k dflt) → valueAt (stored kvs k dflt) k = some dflt → Q dflt { s with heap := h', toks := s.toks + 1 }) :
    wpAny (model prog w) A (call (.builtin "dict.setdefault") [.ref d, .str k t, dflt]) Q E s :=
  kob_setdef_new F N U hd lo (strKind_is prog w k t) (PySem.F.args_dict_setdefault_3 _ _ _) hl hsz fun h' o' F' N' hd' => h h' o' F' N' hd' (by rw [valueAt_stored, if_pos rfl])
noncomputable abbrev lstO (vs : List Value) (n : Nat) : Obj := { cls := .type "list", data := .seq vs.toArray n }
theorem lst_at {h : Heap} {l : Addr} {vs : List Value} {n : Nat} (e : h.get? l = some (lstO vs n)) : h.IsList l vs.toArray := ⟨_, e, rfl, n, rfl⟩
theorem lst_rep {l : Addr} {x : Int} {u : Tok} (F : Fr h₀ L s.heap m) (N : News h₀ L s.heap news) (hm : (l, lstO [v] 0) ∈ news) (hlo : 0 ≤ x) (hhi : x ≤ 100)
    (h : ∀ D h', Fr h₀ L h' m → News h₀ L h' ((D, lstO (List.replicate x.toNat v) 0) :: news) → (∀ p ∈ news, p.1 < D) → Q (.ref D) { s with heap := h' }) : wpAny (model prog w) A (binaryOp .Mult (.ref l) (.int x u)) Q E s :=
  KMa.mul F N (lst_at (N _ hm).1) (by (first | lia | omega)) (by (first | lia | omega)) (by simp only [List.length_cons, List.length_nil]; (first | lia | omega)) (by
    generalize x.toNat = n
    induction n with
    | zero => rfl
    | succ n ih => rw [List.replicate_succ, List.flatten_cons, ih]; rfl) h
theorem lst_cat {l b : Addr} {vs ws : List Value} {n1 n2 : Nat} (F : Fr h₀ L s.heap m) (N : News h₀ L s.heap news) (h1 : s.heap.get? l = some (lstO vs n1)) (h2 : s.heap.get? b = some (lstO ws n2)) (hz : vs.length + ws.length ≤ sizeLine)
    (h : ∀ D h', Fr h₀ L h' m → News h₀ L h' ((D, lstO (vs ++ ws) 0) :: news) → (∀ p ∈ news, p.1 < D) → Q (.ref D) { s with heap := h' }) : wpAny (model prog w) A (binaryOp .Add (.ref l) (.ref b)) Q E s :=
  add_lists (hsz := hz) F N (lst_at h1) (lst_at h2) fun h' F' N' => h _ h' F' N' fun p hp => Heap.lt_size (N p hp).1
end

noncomputable def sAcqAt (es : List (Int × Int)) (now limit expiry amount : Int) : Bool := match es[(limit - amount).toNat]? with | some q => decide (now - expiry ≤ q.1) | none => false
noncomputable def sAcq (fv : Str → Option (List (Int × Int))) (now : Int) (key : Str) (limit expiry amount : Int) : (Str → Option (List (Int × Int))) × Bool :=
  if limit < amount then (fv, false)
  else if sAcqAt ((fv key).getD []) now limit expiry amount then (upd fv key ((fv key).getD []), false)
  else (upd fv key (List.replicate amount.toNat (now, now + expiry) ++ (fv key).getD []), true)
structure Low (prog : Program) (w : World) (K : Frag) (p : Program) (loose : List Str) (mg mb : Str → Option Value) (A : Around) (base : Heap) (outer : List Env) (h : Heap) (S : Ids) (now : Int) : Prop where
  B : Below A base outer (hideAll h S.W)
  X : K.In base
  T : TopRead p loose mg mb base
  I : StI prog w base S now
noncomputable def AcqC (K : Frag) (prog : Program) (w : World) : Prop :=
  ∀ (p : Program) (loose : List Str) (mg mb : Str → Option Value) (S : Ids) (now : Int) (os oe ov : Obj) (A : Around) (s : Shared) (base : Heap) (outer : List Env) (key : Str) (limit expiry amount : Int) (t1 t2 t3 t4 : Tok) (fv : Str → Option (List (Int × Int))) (lg : List (Addr × Obj)) (c : Nat) (Q E : Value → Shared → Prop),
    Pre prog w K p loose mg mb s.heap S now os oe ov → Low prog w K p loose mg mb A base outer s.heap S now → os.cls = .type "dict" → oe.cls = .type "dict" → VObj prog w lg ov fv c → (∀ q ∈ lg, base.get? q.1 = some q.2) → c ≤ 90000 →
    0 ≤ amount → amount ≤ 100 → limit ≤ 1000 → 0 < expiry → expiry < 2 ^ 30 → now < 2 ^ 30 → (∀ es, fv key = some es → es.length ≤ 90000) → ArOk A 20 →
    (∀ h' tk' g' ov' lg', KtsTurn (outer.filterMap (·.frame)) (hideAll s.heap S.W) g' → (∀ b o, g'.get? b = some o → h'.get? b = some o) → h'.get? S.ds = some os → h'.get? S.de = some oe → h'.get? S.dv = some ov' →
      (∀ q ∈ lg', h'.get? q.1 = some q.2 ∧ s.heap.get? q.1 = none) → VObj prog w (lg' ++ lg) ov' (sAcq fv now key limit expiry amount).1 (c + 1) →
      Q (.bool (sAcq fv now key limit expiry amount).2) { s with heap := h', toks := tk' }) →
    wpAny (model prog w) A (call (.ref 631) [.ref S.st, .str key t1, .int limit t2, .int expiry t3] [("amount", .int amount t4)]) Q E s
section
variable {prog : Program} {w : World} {A : Around} {E : Value → Shared → Prop} {s : Shared}
theorem lst_in {value slice : PySem.Expr} {l : Addr} {vs : List Value} {n : Nat} {k : Int} {u : Tok} {v : Value} {Q : Value → Shared → Prop} (hl : s.heap.get? l = some (lstO vs n)) (h0 : 0 ≤ k) (hk : k < 2 ^ 40) (hv : vs[k.toNat]? = some v) (h : Q v s)
    (hs : subscripted slice false (.ref l) (.int k u) = operate [.ref l, .int k u] (getItem (.ref l) (.int k u)) := by with_unfolding_all rfl) (hg : ∀ r, letTemporaryGo value (.ref l) r = pure () := by intro _; with_unfolding_all rfl) :
    wpAny (model prog w) A (subscriptTail value slice (.ref l) (.int k u)) Q E s := item_listL (lst_at hl) h0 (by (first | lia | omega)) hv h hs hg
theorem lst_out {value slice : PySem.Expr} {l : Addr} {vs : List Value} {n : Nat} {k : Int} {u : Tok} {Q : Value → Shared → Prop} (hA : A.handled = none) (hl : s.heap.get? l = some (lstO vs n)) (h0 : 0 ≤ k) (hk : k < 2 ^ 40) (hv : vs[k.toNat]? = none)
    (h : ∀ h' tk e, Heap.NewExc s.heap h' e "IndexError" → E (.ref e) { s with heap := h', toks := tk })
    (hs : subscripted slice false (.ref l) (.int k u) = operate [.ref l, .int k u] (getItem (.ref l) (.int k u)) := by with_unfolding_all rfl) (hg : ∀ r, letTemporaryGo value (.ref l) r = pure () := by intro _; with_unfolding_all rfl) :
    wpAny (model prog w) A (subscriptTail value slice (.ref l) (.int k u)) Q E s :=
  lst_idx hA (lst_at hl) h0 hk (fun v e => by rw [hv] at e; cases e) (fun _ => h) hs hg
end
theorem EntsAt.len {w lg vs es} (h : EntsAt w lg vs es) : vs.length = es.length := by
  induction h with
  | nil => rfl
  | cons _ _ ih => simp [ih]
theorem EntsAt.at {w lg vs es} (h : EntsAt w lg vs es) : ∀ {i : Nat} {v : Value}, vs[i]? = some v → ∃ q : Int × Int, es[i]? = some q ∧ EntAt w lg v q.1 q.2 := by
  induction h with
  | nil => intro i v e; simp at e
  | cons a _ ih =>
    intro i v e
    cases i with
    | zero => simp at e; subst e; exact ⟨_, rfl, a⟩
    | succ i => simpa using ih (by simpa using e)
theorem EntsAt.append {w lg vs es ws fs} (h : EntsAt w lg vs es) (h2 : EntsAt w lg ws fs) : EntsAt w lg (vs ++ ws) (es ++ fs) := by
  induction h with
  | nil => exact h2
  | cons a _ ih => exact .cons a ih
theorem EntsAt.rep {w lg v a x} (h : EntAt w lg v a x) : ∀ n, EntsAt w lg (List.replicate n v) (List.replicate n (a, x))
  | 0 => .nil
  | n + 1 => .cons h (EntsAt.rep h n)

theorem lst_out0 {prog : Program} {w : World} {A : Around} {E : Value → Shared → Prop} {s : Shared} {h₀ : Heap} {L l : Addr} {news : List (Addr × Obj)} {value slice : PySem.Expr} {k : Int} {u : Tok} {Q : Value → Shared → Prop} (hA : A.handled = none) (N : News h₀ L s.heap news) (hm : (l, listOf #[] 0) ∈ news) (h0 : 0 ≤ k) (hk : k < 2 ^ 40)
    (h : ∀ h' tk e, Heap.NewExc s.heap h' e "IndexError" → E (.ref e) { s with heap := h', toks := tk })
    (hs : subscripted slice false (.ref l) (.int k u) = operate [.ref l, .int k u] (getItem (.ref l) (.int k u)) := by with_unfolding_all rfl) (hg : ∀ r, letTemporaryGo value (.ref l) r = pure () := by intro _; with_unfolding_all rfl) :
    wpAny (model prog w) A (subscriptTail value slice (.ref l) (.int k u)) Q E s := lst_out (vs := []) (n := 0) hA (N _ hm).1 h0 hk rfl h hs hg

section
variable {prog : Program} {w : World} {A₀ : Around} {E : Value → Shared → Prop} {s' : Shared} {base g h : Heap} {outer : List Env} {L a e : Addr} {m : Str → Option Value} {name : Str} {scope : Scope} {cd : Value}
  {b₀ : Stmt} {suite : List Stmt} {pos np : Pos} {rest : List ExceptHandler} {Q : Flow → Shared → Prop} {news : List (Addr × Obj)} {KF : Frag}
  {p : Program} {loose : List Str} {mg mb : Str → Option Value} {x : Str} {X T' : String} {S : Ids} {now : Int} {of : Obj}
theorem caught_acq (K : Below A₀ base outer g) (hx : Heap.NewExc h s'.heap e X) (F : Fr g L h m) (N : News g L h news) (XB : KF.In base) (TB : TopRead p loose mg mb base) (IB : StI prog w base S now) (hfc : base.get? S.fc = some of)
    (ex : nsIn KF mainGlobals x = some none) (hv : bootBuiltins x = some (.type T')) (hn' : x ≠ "__name__")
    (hexc : isSubtype (.type T') (.type "BaseException") = pure true) (hnt : isSubtype (.type ((Manifest.find? T').elim "type" fun y => y.metatype)) (.type "tuple") = pure false) (hsub : isSubtype (.type X) (.type T') = pure true)
    (k : ∀ h' g', KtsTurn (outer.filterMap (·.frame)) g g' → Fr g' L h' m → News g' L h' news → Below A₀ base outer g' → KF.In g' → TopRead p loose mg mb g' → StI prog w g' S now → g'.get? S.st = some (instObj 691 S.d) → g'.get? S.d = some (dictOf (stDict w S) 4) → g'.get? S.fc = some of →
      wpAny (model prog w) ((A₀.deeper (envOf name scope L a cd)).mark (some (.ref e))) (execs (b₀ :: suite) (envOf name scope L a cd)) Q E { s' with heap := h' })
    (hk : scope.kind = .function := by rfl) (hkx : (envOf name scope L a cd).kindOf x = some .globalImplicit := by rfl) (hd : (x == ("__debug__" : Str)) = false := by decide)
    (hE : PassesOwnAt (model prog w) ((A₀.deeper (envOf name scope L a cd)).mark (some (.ref e))) (A₀.deeper (envOf name scope L a cd)) (envOf name scope L a cd) E := by passes_own) :
    wpAny (model prog w) (A₀.deeper (envOf name scope L a cd)) (noteFrame (.ref e) (envOf name scope L a cd))
      (fun _ s₂ => wpAny (model prog w) (A₀.deeper (envOf name scope L a cd)) (setFlight (.ref e) none) (fun _ s₃ =>
        wpAny (model prog w) (A₀.deeper (envOf name scope L a cd)) (handleBy (.ref e) (envOf name scope L a cd) (.ExceptHandler (some (.Name x np)) none (b₀ :: suite) pos :: rest)) Q E s₃) E s₂) E s' :=
  caught_new K hx F N XB TB ex hv hn' hexc hnt hsub (fun h' g' T F' N' K' => k h' g' T F' N' K' (XB.keeps K'.stays) (TB.keeps K'.stays) (IB.keeps K'.stays) (K'.stays _ _ IB.i1) (K'.stays _ _ IB.i2) (K'.stays _ _ hfc)) hk hkx hd hE
end
noncomputable def EntryC (K : Frag) (prog : Program) (w : World) : Prop :=
  ∀ (p : Program) (loose : List Str) (mg mb : Str → Option Value) (g : Heap) (L : Addr) (m : Str → Option Value) (news : List (Addr × Obj)) (A : Around) (s : Shared) (expiry now : Int) (t1 t2 : Tok) (Q E : Value → Shared → Prop),
    Fr g L s.heap m → News g L s.heap news → K.In g → TopRead p loose mg mb g → 0 ≤ now → now < 2 ^ 30 → 0 ≤ expiry → expiry < 2 ^ 30 → ArOk A 10 →
    (∀ h' tk' x dx u1 u2 u3 u4, Fr g L h' m → News g L h' ((x, instObj EntC dx) :: (dx, dictOf (entryDict w u1 u2 u3 u4 now (now + expiry)) 2) :: news) → (∀ q ∈ news, @LT.lt Nat _ q.1 dx) → @LT.lt Nat _ dx x → (∀ q ∈ news, @LT.lt Nat _ q.1 x) → Q (.ref x) { s with heap := h', toks := tk' }) →
    wpAny (model prog w) A (call (.ref 568) [.int expiry t1, .int now t2]) Q E s
theorem back2 {g h h' : Heap} {L L' x dx : Addr} {m m' : Str → Option Value} {o od o' od' : Obj} {news : List (Addr × Obj)} (F : Fr g L h m) (N : News g L h ((x, o) :: (dx, od) :: news)) (l1 : ∀ q ∈ news, q.1 < dx) (l2 : dx < x)
    (F' : Fr (hideAll h [x, dx]) L' h' m') (N' : News (hideAll h [x, dx]) L' h' [(x, o'), (dx, od')]) : Fr g L h' m ∧ News g L h' ((x, o') :: (dx, od') :: news) := by
  have k : ∀ b ob, h.get? b = some ob → b ≠ x → b ≠ dx → h'.get? b = some ob := fun b ob e n1 n2 => F'.keep b ob (hideAll_get _ e (by simp [n1, n2]))
  have nx := (N _ (.head _)).2
  have nd := (N _ (.tail _ (.head _))).2
  refine ⟨⟨?_, fun b ob e => k b ob (F.keep b ob e) (fun q => by rw [q, nx.2] at e; cases e) (fun q => by rw [q, nd.2] at e; cases e), F.above⟩, ?_⟩
  · obtain ⟨oL, es, ep, hL, r⟩ := F.ns
    exact ⟨oL, es, ep, k _ _ hL (fun q => nx.1 q.symm) (fun q => nd.1 q.symm), r⟩
  · intro q hq
    rcases List.mem_cons.mp hq with rfl | hq
    · exact ⟨(N' _ (.head _)).1, nx⟩
    · rcases List.mem_cons.mp hq with rfl | hq
      · exact ⟨(N' _ (.tail _ (.head _))).1, nd⟩
      · have a := N q (.tail _ (.tail _ hq))
        have lt := l1 q hq
        exact ⟨k _ _ a.1 (Nat.ne_of_lt (Nat.lt_trans lt l2)) (Nat.ne_of_lt lt), a.2⟩
theorem lst_cat0 {prog : Program} {w : World} {A : Around} {E : Value → Shared → Prop} {s : Shared} {h₀ : Heap} {L l b : Addr} {m : Str → Option Value} {news : List (Addr × Obj)} {Q : Value → Shared → Prop} {vs : List Value} {n1 : Nat} (F : Fr h₀ L s.heap m) (N : News h₀ L s.heap news) (h1 : s.heap.get? l = some (lstO vs n1)) (h2 : (b, listOf #[] 0) ∈ news) (hz : vs.length ≤ sizeLine)
    (h : ∀ D h', Fr h₀ L h' m → News h₀ L h' ((D, lstO vs 0) :: news) → (∀ p ∈ news, p.1 < D) → Q (.ref D) { s with heap := h' }) : wpAny (model prog w) A (binaryOp .Add (.ref l) (.ref b)) Q E s :=
  lst_cat (ws := []) (n2 := 0) F N h1 (N _ h2).1 hz fun D h' F' N' => h D h' F' (by rw [List.append_nil] at N'; exact N')
theorem news_at {g h : Heap} {L l : Addr} {news : List (Addr × Obj)} {o : Obj} (N : News g L h news) (hm : (l, o) ∈ news) : h.get? l = some o := (N _ hm).1
theorem stored_there {kvs : List (Str × Value)} {k : Str} {v v' : Value} (h : valueAt kvs k = some v) : (stored kvs k v').length = kvs.length := by
  unfold stored
  rw [if_pos]
  · simp
  · unfold valueAt at h
    rw [Option.map_eq_some_iff] at h
    obtain ⟨q, hq, _⟩ := h
    exact List.any_eq_true.mpr ⟨q, List.mem_of_find?_eq_some hq, (List.find?_some (p := fun kv : Str × Value => decide (kv.1 = k)) hq :)⟩
theorem stored2_len {kvs : List (Str × Value)} {k : Str} {v v' : Value} : (stored (stored kvs k v) k v').length ≤ kvs.length + 1 := by
  rw [stored_there (v := v) (by rw [valueAt_stored, if_pos rfl])]
  exact stored_length_le _ _ _
theorem VRel.put2 {w lg kvs f k v1 v i} (h : VRel w lg kvs f) (hv : EvAt w lg v i) : VRel w lg (stored (stored kvs k v1) k v) (upd f k i) := by
  intro x
  rw [valueAt_stored, valueAt_stored]
  unfold upd
  by_cases e : x = k
  · rw [if_pos e, if_pos e]; exact .inr ⟨i, v, rfl, rfl, hv⟩
  · rw [if_neg e, if_neg e, if_neg e]; exact h x
theorem upd_same {α : Type} {f : Str → Option α} {k : Str} {v : α} (h : f k = some v) : upd f k v = f := by
  funext x
  unfold upd
  split
  · rename_i e; rw [e, h]
  · rfl
theorem fresh_of {h h' g g' : Heap} {fs : List Addr} {L a : Addr} {o : Obj} {news : List (Addr × Obj)} {S : Ids} (hg : hideAll h S.W = g) (T : KtsTurn fs g g') (N : News g' L h' news) (hm : (a, o) ∈ news)
    (n1 : @Ne Nat a S.ds) (n2 : @Ne Nat a S.de) (n3 : @Ne Nat a S.dv) : h'.get? a = some o ∧ h.get? a = none := by
  refine ⟨(N _ hm).1, ?_⟩
  cases q : h.get? a with
  | none => rfl
  | some x =>
    have hW : a ∉ S.W := by
      simp only [Ids.W, List.mem_cons, List.not_mem_nil, or_false, not_or]
      exact ⟨n1, n2, n3⟩
    have := hideAll_get S.W q hW
    rw [hg] at this
    obtain ⟨sl, hs⟩ := T.up this
    have hn := (N _ hm).2.2
    rw [show g'.get? a = none from hn] at hs; cases hs
theorem acq_end {prog : Program} {w : World} {h h' g g' : Heap} {fs : List Addr} {L D x dx : Addr} {m : Str → Option Value} {news lg : List (Addr × Obj)} {S : Ids} {os oe ov' : Obj} {n : Nat} {vs : List Value} {es : List (Int × Int)} {u1 u2 u3 u4 : Tok} {a b : Int} {key : Str} {kvs kvs' : List (Str × Value)} {fv : Str → Option (List (Int × Int))} {c' : Nat}
    (hg : hideAll h S.W = g) (T : KtsTurn fs g g') (F : Fr g' L h' m) (N : News g' L h' news) (ms : (S.ds, os) ∈ news) (me : (S.de, oe) ∈ news) (mv : (S.dv, ov') ∈ news)
    (mD : (D, lstO (List.replicate n (.ref x) ++ vs) 0) ∈ news) (mx : (x, instObj EntC dx) ∈ news) (md : (dx, dictOf (entryDict w u1 u2 u3 u4 a b) 2) ∈ news)
    (nD : (@Ne Nat D S.ds) ∧ (@Ne Nat D S.de) ∧ (@Ne Nat D S.dv)) (nx : (@Ne Nat x S.ds) ∧ (@Ne Nat x S.de) ∧ (@Ne Nat x S.dv)) (nd : (@Ne Nat dx S.ds) ∧ (@Ne Nat dx S.de) ∧ (@Ne Nat dx S.dv))
    (hents : EntsAt w lg vs es) (hd' : ov'.IsDictOf (strKind prog w) kvs') (hl : kvs'.length ≤ c') (hr : VRel w lg kvs fv) (hst : kvs' = stored kvs key (.ref D) ∨ ∃ v1, kvs' = stored (stored kvs key v1) key (.ref D))
    {P : Prop} (k : ∀ lg', KtsTurn fs g g' → (∀ b o, g'.get? b = some o → h'.get? b = some o) → h'.get? S.ds = some os → h'.get? S.de = some oe → h'.get? S.dv = some ov' → (∀ q ∈ lg', h'.get? q.1 = some q.2 ∧ h.get? q.1 = none) →
      VObj prog w (lg' ++ lg) ov' (upd fv key (List.replicate n (a, b) ++ es)) c' → P) : P := by
  refine k [(D, lstO (List.replicate n (.ref x) ++ vs) 0), (x, instObj EntC dx), (dx, dictOf (entryDict w u1 u2 u3 u4 a b) 2)] T F.keep (N _ ms).1 (N _ me).1 (N _ mv).1 ?_ ?_
  · intro q hq
    simp only [List.mem_cons, List.not_mem_nil, or_false] at hq
    rcases hq with rfl | rfl | rfl
    · exact fresh_of hg T N mD nD.1 nD.2.1 nD.2.2
    · exact fresh_of hg T N mx nx.1 nx.2.1 nx.2.2
    · exact fresh_of hg T N md nd.1 nd.2.1 nd.2.2
  · have more : ∀ q ∈ lg, q ∈ [(D, lstO (List.replicate n (.ref x) ++ vs) 0), (x, instObj EntC dx), (dx, dictOf (entryDict w u1 u2 u3 u4 a b) 2)] ++ lg := fun q hq => List.mem_append_right _ hq
    have ent : EntAt w ([(D, lstO (List.replicate n (.ref x) ++ vs) 0), (x, instObj EntC dx), (dx, dictOf (entryDict w u1 u2 u3 u4 a b) 2)] ++ lg) (.ref x) a b := ⟨⟨x, dx, u1, u2, u3, u4, 2, rfl, by simp, by simp⟩⟩
    have ev : EvAt w ([(D, lstO (List.replicate n (.ref x) ++ vs) 0), (x, instObj EntC dx), (dx, dictOf (entryDict w u1 u2 u3 u4 a b) 2)] ++ lg) (.ref D) (List.replicate n (a, b) ++ es) :=
      ⟨D, _, 0, rfl, by simp, (EntsAt.rep ent n).append (hents.more more)⟩
    rcases hst with rfl | ⟨v1, rfl⟩
    · exact ⟨_, hd', hl, (hr.more more).put ev⟩
    · exact ⟨_, hd', hl, (hr.more more).put2 ev⟩
section
variable {M : Model} {A : Around} {E : Value → Shared → Prop} {s : Shared} {f : Addr} {env : Env} {pos : Pos} {Q : Value → Shared → Prop} {c : Value} {dd : Option Addr} {fd : FuncData} {sl : Array (Option Value)}
noncomputable def FnAt (f : Addr) (h : Heap) : Prop := ∃ c dd fd sl, h.get? f = some ⟨c, dd, .func fd, sl⟩
theorem FnAt.keeps {f : Addr} {h h' : Heap} (x : FnAt f h) (k : ∀ b o, h.get? b = some o → h'.get? b = some o) : FnAt f h' := let ⟨c, dd, fd, sl, e⟩ := x; ⟨c, dd, fd, sl, k _ _ e⟩
theorem callFn1 {e : PySem.Expr} {rest : List PySem.Expr} (h : wpAny M A (spliced (backTo pos (starEach (e :: rest) env))) (fun vs s₁ => FnAt f s₁.heap ∧ wpAny M A (call (.ref f) vs) Q E s₁) E s)
    (he : starEach (e :: rest) env = (false, eval e env) :: starEach rest env := by rfl) (hplain : (backTo pos (starEach rest env)).any (·.1) = false := by rfl) :
    wpAny M A (callWith pos (.ref f) [] (backTo pos (starEach (e :: rest) env)) []) Q E s := by
  rw [he] at h ⊢
  exact callWith_of (P := FnAt f) (by show ((false || (backTo pos (starEach rest env)).any (·.1)) || false) = false; rw [hplain]; rfl) (fun _ hX => by
    obtain ⟨c, dd, fd, sl, hX⟩ := hX
    exact ⟨.frame, .inl rfl, (Looks.ld (part := none) hX).andThen .now⟩) (evalArgs_plain h)
end
noncomputable def KeySpec (prog : Program) (w : World) (g : Heap) (f : Addr) (vs : List Value) (ks : List Int) : Prop :=
  ∀ (i : Nat) (v : Value) (k : Int), vs[i]? = some v → ks[i]? = some k → ∀ (A : Around) (s : Shared) (Q E : Value → Shared → Prop), ArOk A 5 → (∀ b o, g.get? b = some o → s.heap.get? b = some o) →
    (∀ h' tk' t, (∀ b o, s.heap.get? b = some o → h'.get? b = some o) → Q (.int k t) { s with heap := h', toks := tk' }) → wpAny (model prog w) A (call (.ref f) [v]) Q E s
theorem key_use {prog : Program} {w : World} {g : Heap} {f : Addr} {vs : List Value} {ks : List Int} {i : Nat} {v : Value} {k : Int} {A : Around} {E : Value → Shared → Prop} {s : Shared} {L : Addr} {m : Str → Option Value} {news : List (Addr × Obj)} {Q : Value → Shared → Prop}
    (C : KeySpec prog w g f vs ks) (hv : vs[i]? = some v) (hk : ks[i]? = some k) (F : Fr g L s.heap m) (N : News g L s.heap news) (hd : ArOk A 5)
    (h : ∀ h' tk' t, Fr g L h' m → News g L h' news → Q (.int k t) { s with heap := h', toks := tk' }) : wpAny (model prog w) A (call (.ref f) [v]) Q E s :=
  C i v k hv hk A s Q E hd F.keep fun h' tk' t kk => h h' tk' t (kept_frame F kk) (kept_news N kk)
noncomputable def bis (p : Nat → Bool) : Nat → Nat → Nat → Nat
  | 0, lo, _ => lo
  | n + 1, lo, hi => if lo < hi then (if p ((lo + hi) / 2) then bis p n ((lo + hi) / 2 + 1) hi else bis p n lo ((lo + hi) / 2)) else lo
theorem bis_step (p : Nat → Bool) (n lo hi : Nat) : bis p (n + 1) lo hi = if lo < hi then (if p ((lo + hi) / 2) then bis p n ((lo + hi) / 2 + 1) hi else bis p n lo ((lo + hi) / 2)) else lo := rfl
theorem bis_le (p : Nat → Bool) : ∀ n lo hi, lo ≤ hi → lo ≤ bis p n lo hi ∧ bis p n lo hi ≤ hi
  | 0, lo, hi, h => ⟨Nat.le_refl _, h⟩
  | n + 1, lo, hi, h => by
    unfold bis
    split
    · split
      · have := bis_le p n ((lo + hi) / 2 + 1) hi (by (first | lia | omega)); (first | lia | omega)
      · have := bis_le p n lo ((lo + hi) / 2) (by (first | lia | omega)); (first | lia | omega)
    · (first | lia | omega)
theorem bis_congr {p q : Nat → Bool} : ∀ n lo hi, (∀ i, i < hi → p i = q i) → bis p n lo hi = bis q n lo hi
  | 0, _, _, _ => rfl
  | n + 1, lo, hi, h => by
    unfold bis
    split
    · rw [h ((lo + hi) / 2) (by (first | lia | omega)), bis_congr n ((lo + hi) / 2 + 1) hi h, bis_congr n lo ((lo + hi) / 2) fun i hi' => h i (by (first | lia | omega))]
    · rfl
noncomputable def BisC (K : Frag) (prog : Program) (w : World) : Prop :=
  ∀ (p : Program) (loose : List Str) (mg mb : Str → Option Value) (A : Around) (s : Shared) (l f : Addr) (vs : List Value) (n0 : Nat) (ks : List Int) (x : Int) (t : Tok) (Q E : Value → Shared → Prop),
    K.In s.heap → TopRead p loose mg mb s.heap → s.heap.get? l = some (lstO vs n0) → FnAt f s.heap → KeySpec prog w s.heap f vs ks → vs.length = ks.length → vs.length ≤ 90000 → ArOk A 15 →
    (∀ h' tk' t', (∀ b o, s.heap.get? b = some o → h'.get? b = some o) → Q (.int (bis (fun i => decide (ks.getD i 0 < x)) vs.length 0 vs.length : Nat) t') { s with heap := h', toks := tk' }) →
    wpAny (model prog w) A (call (.ref 551) [.ref l, .int x t] [("key", .ref f)]) Q E s
structure Hold (P : Prop) : Prop where
  out : P
structure BisP (l f : Addr) (x : Int) (t : Tok) (P : Nat → Bool) (len r0 : Nat) : Prop where
  on : True
structure BisJ (l f : Addr) (x : Int) (t : Tok) (P : Nat → Bool) (len r0 n : Nat) (m : Str → Option Value) (news : List (Addr × Obj)) : Prop where
  e : news = []
  a : m "rows" = some (.ref l)
  b : m "x" = some (.int x t)
  c : m "key" = some (.ref f)
  d : ∃ lo hi : Nat, ∃ t1 t2, m "lo" = some (.int lo t1) ∧ m "hi" = some (.int hi t2) ∧ lo ≤ hi ∧ hi ≤ len ∧ hi - lo ≤ n ∧ bis P n lo hi = r0
theorem bis_while {prog : Program} {w : World} {A : Around} {E : Value → Shared → Prop} {Q : Flow → Shared → Prop} {s : Shared} {env : Env} {g : Heap} {L l f : Addr} {test : PySem.Expr} {body : List Stmt} {pos : Pos} {m : Str → Option Value} {x : Int} {t : Tok} {P : Nat → Bool} {len r0 n₀ : Nat}
    (hB : BisP l f x t P len r0) (F : Fr g L s.heap m) (N : News g L s.heap []) (hJ : BisJ l f x t P len r0 n₀ m [])
    (turn : Hold (∀ n m₁ h₁ tk₁, Fr g L h₁ m₁ → News g L h₁ [] → BisJ l f x t P len r0 n m₁ [] →
      wpAny (model prog w) A (isTrue test env (eval test env)) (fun b s₂ =>
        if b = true then wpAny (model prog w) A (execs body env) (WhileStep g L s (BisJ l f x t P len r0) n) E s₂ else Q .next s₂) E { s with heap := h₁, toks := tk₁ }))
    (hE : PassesOwn (model prog w) A env E := by passes_own) :
    wpAny (model prog w) A (exec (.While test body [] pos) env) Q E s :=
  While_inv (BisJ l f x t P len r0) F N hJ (fun n m₁ news₁ h₁ tk₁ F₁ N₁ J₁ => by
    obtain rfl := J₁.e
    exact turn.out n m₁ h₁ tk₁ F₁ N₁ J₁) hE
section
variable {prog : Program} {w : World} {A : Around} {R : Result → Shared → Prop} {s : Shared} {Wl : List Addr} {K : Frag} {p : Program} {loose : List Str} {mg mb : Str → Option Value} {c' : Addr}
  {news : List (Addr × Obj)} {name qual : Str} {params : Arguments} {body : PySem.Expr} {scope : Scope} {pm ctv : Value} {f : Addr} {args : Args} {binds : List (Str × Value)}
theorem enterL (T : TopRead p loose mg mb s.heap)
    (ho : s.heap.get? f = some (kla_obj name qual params body scope [] pm c' ctv)) (hcd : s.heap.CodeRec (.ref c') qual) (hroom : A.depth < recursionLimit)
    (hbind : bindArgs (kla_fn name qual params body scope [] pm (.ref c') ctv) args = pure binds) (hloc : ∀ y ∈ binds, scope.names.lookup y.1 = some .local)
    (h : ∀ L' h₁, Fr s.heap L' h₁ (fun y => binds.reverse.lookup y) → News s.heap L' h₁ [] →
      wpAny (model prog w) (A.deeper (envOf qual scope L' f (.ref c'))) (eval body (envOf qual scope L' f (.ref c')))
        (fun v s' => R (.ok (.ret v)) s')
        (fun e s' => wpAny (model prog w) (A.deeper (envOf qual scope L' f (.ref c'))) (leaving (envOf qual scope L' f (.ref c')) e) (fun _ s'' => R (.error e) s'') (fun e' s'' => R (.error e') s'') s')
        { s with heap := h₁, toks := s.toks + binds.length })
    (hco : scope.isCoroutine = false) (hgen : scope.isGenerator = false) (hk : scope.kind = .function)
    (hcell : ∀ x ∈ scope.names, x.2 ≠ .cell) : codeAny (model prog w) A (.call (.ref f) args) R s := by
  refine kla_callFunE hroom ho rfl hco hgen rfl hcd ?_
  rw [hbind]
  refine wpAny_pure (wpAny_newFunctionEnv hcell hloc (fun h₁ hns hsb => ⟨T.nolimit.fresh _ hsb, ?_⟩) hk)
  have hk₁ : ∀ b o, s.heap.get? b = some o → h₁.get? b = some o := fun b o e => hsb.extBut b o (Nat.ne_of_lt (Heap.lt_size e)) (Heap.get?_push_of_some _ e)
  exact kla_codeExpr (h s.heap.objs.size h₁ ⟨hns, hk₁, Nat.le_refl _⟩ (fun _ hp => nomatch hp))
end
noncomputable def LamTab (g : Heap) (pos : Pos) (qual : Str) (ot : Obj) : Prop := ot = tabObj #[] ∨ ∃ (c' : Addr) (oc : Obj) (vs : Array Value) (t : Tok), ot = tabObj #[rawInt pos.line, rawInt pos.col, .ref c'] ∧ g.get? c' = some oc ∧ oc.data = .fields vs ∧ vs[1]? = some (.str qual t)
theorem lst_m1 {prog : Program} {w : World} {A : Around} {E : Value → Shared → Prop} {s : Shared} {value slice : PySem.Expr} {l : Addr} {vs : List Value} {n r : Nat} {u : Tok} {v : Value} {Q : Value → Shared → Prop} (hl : s.heap.get? l = some (lstO vs n)) (hr : r ≤ vs.length) (hn : 0 < vs.length) (hz : vs.length ≤ 90000)
    (hv : vs[if r = 0 then vs.length - 1 else r - 1]? = some v) (h : Q v s)
    (hs : subscripted slice false (.ref l) (.int ((r : Int) - 1) u) = operate [.ref l, .int ((r : Int) - 1) u] (getItem (.ref l) (.int ((r : Int) - 1) u)) := by with_unfolding_all rfl) (hg : ∀ r, letTemporaryGo value (.ref l) r = pure () := by intro _; with_unfolding_all rfl) :
    wpAny (model prog w) A (subscriptTail value slice (.ref l) (.int ((r : Int) - 1) u)) Q E s := by
  by_cases h0 : r = 0
  · subst h0
    rw [if_pos rfl] at hv
    exact subscriptTail_builtin (lst_at hl).typeIs slot_list_getitem.lookup (wpAny_getItem_list_neg (lst_at hl) (by (first | lia | omega)) (by rw [List.size_toArray]; (first | lia | omega)) (by (first | lia | omega)) (by
      rw [List.size_toArray, show (((0 : Nat) : Int) - 1 + vs.length).toNat = vs.length - 1 by (first | lia | omega)]; simpa using hv) h) hs hg
  · rw [if_neg h0] at hv
    exact item_listL (lst_at hl) (by (first | lia | omega)) (by (first | lia | omega)) (by rw [show ((r : Int) - 1).toNat = r - 1 by (first | lia | omega)]; exact hv) h hs hg
noncomputable def sGmw (fv : Str → Option (List (Int × Int))) (now : Int) (key : Str) (expiry : Int) : Int × Nat :=
  match fv key with
  | none => (now, 0)
  | some es => if es.length = 0 then (now, 0) else
    let r := bis (fun i => decide ((es.map fun q => -q.1).getD i 0 < -(now - expiry))) es.length 0 es.length
    ((es.getD (if r = 0 then es.length - 1 else r - 1) (0, 0)).1, r)
noncomputable abbrev gmwPos : Pos := { line := 502, col := 68, endLine := 502, endCol := 94 }
noncomputable def GmwC (K : Frag) (prog : Program) (w : World) (pos : Pos) : Prop :=
  ∀ (p : Program) (loose : List Str) (mean : ExcName → Option Value) (mg mb : Str → Option Value) (S : Ids) (now : Int) (os oe ov ot : Obj) (A : Around) (s : Shared) (key : Str) (limit expiry : Int) (t1 t2 t3 : Tok) (fv : Str → Option (List (Int × Int))) (lg : List (Addr × Obj)) (c : Nat) (Q E : Value → Shared → Prop),
    S.Ok → ((@Ne Nat 640 S.ds) ∧ (@Ne Nat 640 S.de) ∧ (@Ne Nat 640 S.dv)) → K.In (hideAll s.heap (640 :: S.W)) → Top p loose mean mg mb (hideAll s.heap (640 :: S.W)) → StI prog w (hideAll s.heap (640 :: S.W)) S now → CodeHd (hideAll s.heap (640 :: S.W)) 644 640 →
    s.heap.get? S.ds = some os → s.heap.get? S.de = some oe → s.heap.get? S.dv = some ov → s.heap.get? 640 = some ot → os.cls = .type "dict" → oe.cls = .type "dict" → ov.cls = .type "dict" →
    LamTab (hideAll s.heap (640 :: S.W)) pos "MemoryStorage.get_moving_window.<locals>.<lambda>" ot → VObj prog w lg ov fv c → (∀ q ∈ lg, (hideAll s.heap (640 :: S.W)).get? q.1 = some q.2) → c ≤ 100000 → (∀ es, fv key = some es → es.length ≤ 90000) →
    0 ≤ expiry → expiry < 2 ^ 30 → now < 2 ^ 30 → ArOk A 25 →
    (∀ h' tk' ot' tp u1 u2, (∀ b o, (hideAll s.heap (640 :: S.W)).get? b = some o → h'.get? b = some o) → h'.get? S.ds = some os → h'.get? S.de = some oe → h'.get? S.dv = some ov → h'.get? 640 = some ot' →
      (ot' = ot ∨ ∃ (c' : Addr) (oc : Obj) (vs : Array Value) (t : Tok), ot' = tabObj #[rawInt pos.line, rawInt pos.col, .ref c'] ∧ s.heap.get? c' = none ∧ h'.get? c' = some oc ∧ oc.data = .fields vs ∧ vs[1]? = some (.str "MemoryStorage.get_moving_window.<locals>.<lambda>" t)) →
      s.heap.get? tp = none → h'.get? tp = some (tupO [.int (sGmw fv now key expiry).1 u1, .int ((sGmw fv now key expiry).2 : Nat) u2]) → Q (.ref tp) { s with heap := h', toks := tk' }) →
    wpAny (model prog w) A (call (.ref 645) [.ref S.st, .str key t1, .int limit t2, .int expiry t3]) Q E s
theorem truthy0 {prog : Program} {w : World} {A : Around} {E : Value → Shared → Prop} {s : Shared} {l : Addr} {n : Nat} {Q : Bool → Shared → Prop} (hl : s.heap.get? l = some (lstO [] n)) (h : Q false { s with toks := s.toks + 1 + 1 }) : wpAny (model prog w) A (truthy (.ref l)) Q E s :=
  wpAny_truthy_list (lst_at hl) (by decide) h
theorem truthy1 {prog : Program} {w : World} {A : Around} {E : Value → Shared → Prop} {s : Shared} {l : Addr} {n : Nat} {v : Value} {vs : List Value} {Q : Bool → Shared → Prop} (hl : s.heap.get? l = some (lstO (v :: vs) n)) (hz : (v :: vs).length ≤ 90000) (h : Q true { s with toks := s.toks + 1 + 1 }) : wpAny (model prog w) A (truthy (.ref l)) Q E s :=
  wpAny_truthy_list (lst_at hl) (by rw [List.size_toArray]; (first | lia | omega)) h
structure KsP (vs : List Value) (ks : List Int) : Prop where
  len : vs.length = ks.length
  le : vs.length ≤ 90000
theorem bis_use {prog : Program} {w : World} {K : Frag} {p : Program} {loose : List Str} {mg mb : Str → Option Value} {A : Around} {s : Shared} {g : Heap} {L l f : Addr} {m : Str → Option Value} {news : List (Addr × Obj)} {vs : List Value} {n0 : Nat} {ks : List Int} {x : Int} {t : Tok} {Q : Value → Shared → Prop} {E : Value → Shared → Prop}
    (C : BisC K prog w) (hks : KsP vs ks) (F : Fr g L s.heap m) (N : News g L s.heap news) (X : K.In g) (T : TopRead p loose mg mb g) (hl : s.heap.get? l = some (lstO vs n0)) (hf : FnAt f s.heap) (hd : ArOk A 15) (hkey : Hold (KeySpec prog w s.heap f vs ks))
    (h : ∀ h' tk' t', Fr g L h' m → News g L h' news → Q (.int (bis (fun i => decide (ks.getD i 0 < x)) vs.length 0 vs.length : Nat) t') { s with heap := h', toks := tk' }) :
    wpAny (model prog w) A (call (.ref 551) [.ref l, .int x t] [("key", .ref f)]) Q E s :=
  C p loose mg mb A s l f vs n0 ks x t Q E (X.keeps F.keep) (T.keeps F.keep) hl hf hkey.out hks.len hks.le hd fun h' tk' t' k => h h' tk' t' (kept_frame F k) (kept_news N k)
theorem fnAt_news {g h : Heap} {L f : Addr} {news : List (Addr × Obj)} {name qual : Str} {params : Arguments} {body : PySem.Expr} {scope : Scope} {cl : List (Str × Addr)} {pm ctv : Value} {c' : Addr} (N : News g L h news) (hm : (f, kla_obj name qual params body scope cl pm c' ctv) ∈ news) : FnAt f h := ⟨_, _, _, _, (N _ hm).1⟩
noncomputable abbrev lamParams (x : Str) (p1 : Pos) : Arguments := { posonlyargs := [], args := [{ arg := x, annotation := none, pos := p1 }], vararg := none, kwonlyargs := [], kw_defaults := [], kwarg := none, defaults := [] }
noncomputable abbrev lamBody (x attr : Str) (p2 p3 p4 : Pos) : PySem.Expr := .UnaryOp .USub (.Attribute (.Name x p2) attr p3) p4
noncomputable abbrev lamScope (x : Str) : Scope := { kind := .function, names := [(x, .local)], isGenerator := false, isCoroutine := false }
noncomputable def LamC (K : Frag) (prog : Program) (w : World) (x attr : Str) (sel : Int × Int → Int) : Prop :=
  ∀ (p : Program) (loose : List Str) (mg mb : Str → Option Value) (h : Heap) (f c' : Addr) (pm ctv : Value) (p1 p2 p3 p4 : Pos) (qual : Str) (es : List (Int × Int)) (vs : List Value) (lg : List (Addr × Obj)),
    K.In h → TopRead p loose mg mb h → h.get? f = some (kla_obj "<lambda>" qual (lamParams x p1) (lamBody x attr p2 p3 p4) (lamScope x) [] pm c' ctv) → h.CodeRec (.ref c') qual → EntsAt w lg vs es → (∀ q ∈ lg, h.get? q.1 = some q.2) →
    KeySpec prog w h f vs (es.map fun q => -(sel q))
theorem gone4 {h h' g : Heap} {L tp P : Addr} {news : List (Addr × Obj)} {S : Ids} {o : Obj} (hg : hideAll h (P :: S.W) = g) (N : News g L h' news) (hm : (tp, o) ∈ news)
    (n : (@Ne Nat tp P) ∧ (@Ne Nat tp S.ds) ∧ (@Ne Nat tp S.de) ∧ (@Ne Nat tp S.dv)) : h.get? tp = none := by
  cases q : h.get? tp with
  | none => rfl
  | some x =>
    have hW : tp ∉ P :: S.W := by
      simp only [Ids.W, List.mem_cons, List.not_mem_nil, or_false, not_or]
      exact n
    have := hideAll_get (P :: S.W) q hW
    rw [hg] at this
    rw [(N _ hm).2.2] at this; cases this
noncomputable abbrev itDict (w : World) (ns : Str) (amount length : Int) (t1 t2 t3 t4 t5 t6 : Tok) : List DictEntry :=
  [⟨PyData.keyHash w.params "namespace", .str "namespace" t1, .str ns t2⟩, ⟨PyData.keyHash w.params "amount", .str "amount" t3, .int amount t4⟩, ⟨PyData.keyHash w.params "multiples", .str "multiples" t5, .int length t6⟩]
structure ItI (w : World) (b g : Heap) (C it : Addr) (ns : Str) (amount length : Int) : Prop where
  ex : ∃ dx t1 t2 t3 t4 t5 t6, g.get? it = some (instObj C dx) ∧ g.get? dx = some (dictOf (itDict w ns amount length t1 t2 t3 t4 t5 t6) 3) ∧ b.get? it = none ∧ b.get? dx = none
theorem ItI.keeps {w : World} {b g g' : Heap} {C it : Addr} {ns : Str} {amount length : Int} (h : ItI w b g C it ns amount length) (k : ∀ b o, g.get? b = some o → g'.get? b = some o) : ItI w b g' C it ns amount length :=
  ⟨ex7 (fun _ _ _ _ _ _ _ p => ⟨k _ _ p.1, k _ _ p.2.1, p.2.2⟩) h.ex⟩
theorem not_mem2 {h : Heap} {a b c : Addr} {o1 o2 o3 : Obj} (h1 : h.get? a = some o1) (h2 : h.get? b = some o2) (h3 : h.get? c = some o3) (n1 : o3 = o1 → False) (n2 : o3 = o2 → False) : c ∉ [a, b] := by
  intro hm
  rcases List.mem_cons.mp hm with e | hm
  · rw [e, h1] at h3; exact n1 (Option.some.inj h3).symm
  · rw [List.mem_singleton.mp hm, h2] at h3; exact n2 (Option.some.inj h3).symm
theorem hide2 {b h : Heap} {x dx : Addr} (k : ∀ a o, b.get? a = some o → h.get? a = some o) (n1 : b.get? x = none) (n2 : b.get? dx = none) : ∀ a o, b.get? a = some o → (hideAll h [x, dx]).get? a = some o := hidden k fun a ha => by
  simp only [List.mem_cons, List.not_mem_nil, or_false] at ha
  rcases ha with rfl | rfl
  · exact n1
  · exact n2
noncomputable def ExpC (K : Frag) (prog : Program) (w : World) (C : Addr) (sec : Int) : Prop :=
  ∀ (p : Program) (loose : List Str) (mg mb : Str → Option Value) (A : Around) (s : Shared) (b : Heap) (it : Addr) (ns : Str) (amount length : Int) (Q E : Value → Shared → Prop),
    (∀ a o, b.get? a = some o → s.heap.get? a = some o) → K.In b → TopRead p loose mg mb b → ItI w b s.heap C it ns amount length → 0 ≤ length → length ≤ 1000 → ArOk A 12 →
    (∀ h' tk' t, (∀ b o, s.heap.get? b = some o → h'.get? b = some o) → Q (.int (sec * length) t) { s with heap := h', toks := tk' }) →
    wpAny (model prog w) A (call (.ref 451) [.ref it]) Q E s
theorem back_all {h h' : Heap} {L : Addr} {m : Str → Option Value} {x dx : Addr} {o od : Obj} {news : List (Addr × Obj)} (hx : h.get? x = some o) (hd : h.get? dx = some od) (F : Fr (hideAll h [x, dx]) L h' m) (N : News (hideAll h [x, dx]) L h' news) (mx : (x, o) ∈ news) (md : (dx, od) ∈ news) :
    ∀ b ob, h.get? b = some ob → h'.get? b = some ob := by
  intro b ob e
  by_cases h1 : b = x
  · subst h1; rw [hx] at e; cases e; exact (N _ mx).1
  · by_cases h2 : b = dx
    · subst h2; rw [hd] at e; cases e; exact (N _ md).1
    · exact F.keep b ob (hideAll_get _ e (by simp [h1, h2]))
section
variable {prog : Program} {w : World} {A : Around} {E : Value → Shared → Prop} {s : Shared} {K : Frag} {C L x g : Addr} {h₀ : Heap} {m : Str → Option Value} {name : Str} {ox : Obj} {od : Option Obj} {a : Value}
end
noncomputable def TgK (K : Frag) (prog : Program) (w : World) (tg x C : Addr) (R : Value → Prop) : Prop :=
  ∀ (p : Program) (loose : List Str) (mg mb : Str → Option Value) (A : Around) (s : Shared) (Q E : Value → Shared → Prop), K.In s.heap → TopRead p loose mg mb s.heap → ArOk A 6 →
    (∀ h' tk' v, (∀ b o, s.heap.get? b = some o → h'.get? b = some o) → R v → Q v { s with heap := h', toks := tk' }) → wpAny (model prog w) A (call (.ref 320) [.ref tg, .ref x, .ref C]) Q E s
theorem issub_nested {prog : Program} {w : World} {A : Around} {E : Value → Shared → Prop} {s : Shared} {K : Frag} {C : Addr} {Q : Fin → Shared → Prop} (X : K.In s.heap) (hC : ∃ o cd, K.lookup C = some o ∧ o.data = .cls cd) (h2 : subIn K (.ref C) (.type "tuple") = some true) (hq : Q (.done (.ret (.bool true))) s) :
    wpAny (model prog w) A (Builtin.«issubclass.nested» ⟨[.ref C, .type "tuple", rawInt 0], []⟩) Q E s := by
  obtain ⟨hh, g, d, t, os⟩ := s
  have L2 : Looks (model prog w) hh (isSubtype (.ref C) (.type "tuple")) true := looks_subIn X h2
  have L3 : Looks (model prog w) hh (isType (.ref C)) true := by
    obtain ⟨o, cd, e1, e2⟩ := hC
    have e3 : hh.get? C = some o := X _ _ e1
    unfold isType
    refine (Looks.ld (part := none) e3).andThen ?_
    rw [e2]
    exact .now
  unfold Builtin.«issubclass.nested»
  refine wpAny_bind (wpAny_pure ?_)
  rw [if_pos (by rfl)]
  refine wpAny_bind ?_
  refine wpAny_bind ?_
  refine L3.at ?_
  refine wpAny_bind (wpAny_pure ?_)
  rw [if_pos (by rfl)]
  refine L2.at ?_
  exact wpAny_pure hq
theorem issub_K {prog : Program} {w : World} {A : Around} {E : Value → Shared → Prop} {s : Shared} {K : Frag} {C : Addr} {Q : Value → Shared → Prop} (X : K.In s.heap) (hC : ∃ o cd, K.lookup C = some o ∧ o.data = .cls cd) (h2 : subIn K (.ref C) (.type "tuple") = some true) (hq : Q (.bool true) s) :
    wpAny (model prog w) A (call (.builtin "issubclass") [.ref C, .type "tuple"]) Q E s :=
  call_issubclass (S := fun _ R s' => s' = s ∧ R (.ok (.ret (.bool true))) s) (fun _ _ _ _ _ hs => by
    obtain ⟨rfl, hs⟩ := hs
    exact issubclass_outer (issub_nested X hC h2 hs)) ⟨rfl, hq⟩

theorem issub_F {prog : Program} {w : World} {A : Around} {E : Value → Shared → Prop} {s : Shared} {K : Frag} {C L : Addr} {g : Heap} {m : Str → Option Value} {oc : Value} {od : Option Addr} {cd : ClassData} {osl : Array (Option Value)} {Q : Value → Shared → Prop} (F : Fr g L s.heap m) (X : K.In g) (hC : K.lookup C = some ⟨oc, od, .cls cd, osl⟩) (h2 : subIn K (.ref C) (.type "tuple") = some true) (hq : Q (.bool true) s) :
    wpAny (model prog w) A (call (.builtin "issubclass") [.ref C, .type "tuple"]) Q E s := issub_K (X.keeps F.keep) ⟨_, cd, hC, rfl⟩ h2 hq
theorem typeK {prog : Program} {w : World} {A : Around} {E : Value → Shared → Prop} {s : Shared} {x C L : Addr} {g : Heap} {m : Str → Option Value} {ox : Obj} {Q : Value → Shared → Prop} (F : Fr g L s.heap m) (hx : g.get? x = some ox) (hc : ox.cls = .ref C) (hq : Q (.ref C) s) : wpAny (model prog w) A (call (.type "type") [.ref x]) Q E s := by
  have hx' := F.keep _ _ hx
  obtain ⟨hh, g, d, t, os⟩ := s
  exact call_type_obj hx' (by rw [hc]; rfl) (by rw [hc]; exact hq)
theorem tuple_at (l : Addr) (cl : Value) (dd : Option Addr) (sl : Array (Option Value)) (items : Array Value) (n : Nat) (i : Int) (u : Tok) (k : Nat) (y : Value) (hlo : -2 ^ 63 ≤ i) (hhi : i < 2 ^ 63) (hk : seqIndex? i items.size = some k) (hy : items[k]? = some y) :
    Meets (Builtin.«tuple.__getitem__» ⟨[.ref l, .int i u], []⟩)
      (fun _ R s => s.heap.get? l = some { cls := cl, dict := dd, data := .seq items n, slots := sl } ∧ R (.ok (.ret y)) s) :=
  .of_wp fun prog w A R s h => by
    obtain ⟨hp, g, d, tk, os⟩ := s; obtain ⟨hl, h⟩ := h
    have f1 := AutoSeq1.idx_int
    have hf : ¬ (decide (i < -2 ^ 63) || decide (i ≥ 2 ^ 63)) = true := by simp; (first | lia | omega)
    wp_walk using AutoSeq1.wpAny_loadPart' hl
    simp only [hk, hy, Option.bind_some]
    refine wpAny_ite_false (by simp; (first | lia | omega)) ?_
    wp_walk
    exact ⟨_, rfl, h⟩
theorem call_tup {prog : Program} {w : World} {A : Around} {E : Value → Shared → Prop} {s : Shared} {K : Frag} {C L l : Addr} {g : Heap} {m : Str → Option Value} {dd : Option Addr} {sl : Array (Option Value)} {items : Array Value} {n k : Nat} {i : Int} {u : Tok} {y : Value} {Q : Value → Shared → Prop}
    (F : Fr g L s.heap m) (X : K.In g) (hx : s.heap.get? l = some { cls := .ref C, dict := dd, data := .seq items n, slots := sl }) (h2 : subIn K (.ref C) (.type "tuple") = some true)
    (h0 : 0 ≤ i) (h1 : i < 2 ^ 20) (hk : seqIndex? i items.size = some k) (hy : items[k]? = some y) (hq : Q y s) :
    wpAny (model prog w) A (call (.builtin "tuple.__getitem__") [.ref l, .int i u]) Q E s := by
  have hi : Looks (model prog w) s.heap (isInstance (.ref l) (.type "tuple")) true := by
    have X' := X.keeps F.keep
    obtain ⟨hh, gg, d, t, os⟩ := s
    have L0 : Looks (model prog w) hh (typeOf (.ref l)) (.ref C) := by
      refine (Looks.ld (part := none) hx).andThen ?_
      exact .now
    have L2 : Looks (model prog w) hh (isSubtype (.ref C) (.type "tuple")) true := looks_subIn X' h2
    exact L0.andThen L2
  refine wpAny_call (codeAny_call_builtin PySem.F.slot_tuple_getitem.plain PySem.F.entry_tuple_getitem ?_)
  have hm := tuple_at l (.ref C) dd sl items n i u k y (by (first | lia | omega)) (by (first | lia | omega)) hk hy prog w A (wants Q E) s ⟨hx, hq⟩
  have hargs := PySem.F.args_tuple_getitem_2 (.ref l) (.int i u)
  refine @check_slot (model prog w) _ _ s "tuple.__getitem__" "tuple" "__getitem__" (.ref l) [.int i u] [] _ (by decide +kernel) (by decide +kernel) hi hargs ?_
  exact hm
theorem meta_tuple : typeOf (.type "tuple") = pure (.type "type") := by kernel_rfl
section
variable {prog : Program} {w : World} {A : Around} {E : Value → Shared → Prop} {s : Shared} {K : Frag} {C x : Addr} {ox : Obj} {od : Option Obj} {name : Str} {a g : Value}
theorem ga_tup {tk : Tok} {R : Result → Shared → Prop} (X : K.In s.heap) (I : InstAt s.heap x ox C od) (h2 : subIn K (.ref C) (.type "tuple") = some true) (hf : findObj K C od name = some (.bind g a))
    (h : wpAny (model prog w) A.in1 (call g [a, .ref x, .ref C]) (fun v s' => R (.ok (.ret v)) s') (fun e s' => R (.error e) s') s) :
    codeAny (model prog w) A (.call (.builtin "tuple.__getattribute__") ⟨[.ref x, .str name tk], []⟩) R s := by
  obtain ⟨hh, gg, d, t, os⟩ := s
  have L0 := I.type (M := model prog w)
  have L1 := looks_find (M := model prog w) X I hf
  have hi : Looks (model prog w) hh (isInstance (.ref x) (.type "tuple")) true := L0.andThen (looks_subIn X h2)
  refine codeAny_call_builtin PySem.F.slot_tuple_getattribute.plain PySem.F.entry_tuple_ga ?_
  refine @check_slot (model prog w) _ _ _ "tuple.__getattribute__" "tuple" "__getattribute__" (.ref x) [.str name tk] [] _ (by decide +kernel) (by decide +kernel) hi (PySem.F.args_tuple_getattribute_2 _ _) ?_
  unfold Builtin.«object.__getattribute__»
  refine wpAny_bind (wpAny_pure ?_)
  dsimp only
  refine wpAny_bind (wpAny_pure ?_)
  refine wpAny_bind (L0.at ?_)
  refine wpAny_bind (L1.at ?_)
  dsimp only
  show wpAny _ _ (holding [a] (call g [a, .ref x, .ref C]) >>= ret) _ _ _
  exact wpAny_bind (wpAny_holding (wpAny_mono h (fun v s' z => wpAny_pure z) fun _ _ z => z))
theorem get_tup {expr : Bool} {Q : Value → Shared → Prop} (X : K.In s.heap) (I : InstAt s.heap x ox C od) (hga : findIn K (.ref C) "__getattribute__" = some (some (.builtin "tuple.__getattribute__"))) (hk : findIn K (.ref C) "__getattr__" = some none)
    (h2 : subIn K (.ref C) (.type "tuple") = some true) (hf : findObj K C od name = some (.bind g a))
    (h : ∀ A' : Around, A'.depth = A.depth → A'.handled = A.handled → A'.units ≤ A.units + 3 → wpAny (model prog w) A' (call g [a, .ref x, .ref C]) (fun v s' => wpAny (model prog w) A (handedOut v) Q E s') (fun _ _ => False) { s with toks := s.toks + 1 }) :
    wpAny (model prog w) A (getAttr (.ref x) name expr) Q E s := by
  obtain ⟨hh, gg, d, t, os⟩ := s
  have L0 := I.type (M := model prog w)
  have L1 := looks_findIn (M := model prog w) X hga
  have L2 := looks_findIn (M := model prog w) X hk
  unfold getAttr getAttrBy
  refine wpAny_bind (wpAny_mkText (wpAny_holding (wpAny_bind (L0.at (wpAny_bind (L1.at ?_))))))
  show wpAny _ _ (getAttrByItsOwn _ _ _ _ _ _) _ _ _
  unfold getAttrByItsOwn hookBefore
  refine wpAny_bind ?_
  rw [if_pos (by rfl)]
  refine L2.at ?_
  refine wpAny_bind (wpAny_attempt (wpAny_holding ?_))
  have hcg : callGetattribute (.ref x) (.str name t) (.builtin "tuple.__getattribute__") expr = boundAndCalled (.builtin "tuple.__getattribute__") (.ref x) (.str name t) := by
    unfold callGetattribute
    rw [if_neg (by rw [show onTheHeap (.builtin "tuple.__getattribute__") = false from rfl, Bool.and_false]; decide)]
  show wpAny _ _ (callGetattribute (.ref x) (.str name t) (.builtin "tuple.__getattribute__") expr) _ _ _
  rw [hcg]
  unfold boundAndCalled
  have hb := PySem.F.slot_tuple_getattribute.bind (.ref x)
  rw [hb]
  refine wpAny_bind (wpAny_pure ?_)
  show wpAny _ _ (call (.builtin "tuple.__getattribute__") [.ref x, .str name t]) _ _ _
  refine wpAny_call (ga_tup (s := ⟨hh, gg, d, t + 1, os⟩) X I h2 hf (wpAny_mono (h A.in1 rfl rfl (by show A.units + 1 ≤ _; (first | lia | omega))) (fun v s' z => z) fun _ _ z => z.elim))
end

theorem ArOk.like {A A' : Around} {n k : Nat} (h : ArOk A n) (d : A'.depth = A.depth) (hh : A'.handled = A.handled) (u : A'.units ≤ A.units + 3) (l : k + 1 ≤ n) : ArOk A' k :=
  ⟨by have := h.d; (first | lia | omega), hh.trans h.h, by have := h.u; (first | lia | omega)⟩
theorem get_tgK {prog : Program} {w : World} {A : Around} {E : Value → Shared → Prop} {s : Shared} {K : Frag} {Cc L x tg dx : Addr} {g : Heap} {m : Str → Option Value} {name : Str} {news : List (Addr × Obj)} {p : Program} {loose : List Str} {mg mb : Str → Option Value} {dt : Data} {sl : Array (Option Value)} {od : Obj} {cd : ClassData} {R : Value → Prop} {expr : Bool} {Q : Value → Shared → Prop}
    (C : TgK K prog w tg x Cc R) (F : Fr g L s.heap m) (N : News g L s.heap news) (X : K.In g) (T : TopRead p loose mg mb g) (hx : K.lookup x = some ⟨.ref Cc, some dx, dt, sl⟩) (hdx : K.lookup dx = some od) (hno : notCls ⟨.ref Cc, some dx, dt, sl⟩ = true)
    (hga : findIn K (.ref Cc) "__getattribute__" = some (some (.builtin "tuple.__getattribute__"))) (hgk : findIn K (.ref Cc) "__getattr__" = some none) (h2 : subIn K (.ref Cc) (.type "tuple") = some true) (hc : clsIn K Cc = some cd)
    (ha : findIn K (.ref Cc) name = some (some (.ref tg))) (hn : specialIn K (.ref tg) "__get__" = some (some (.ref 320))) (ht : takesIn K (.ref tg) = some true) (hR : ∀ v, R v → handedIn v = true) (hd : ArOk A 7)
    (ret : ∀ h' tk' v, Fr g L h' m → News g L h' news → R v → Q v { s with heap := h', toks := tk' }) : wpAny (model prog w) A (getAttr (.ref x) name expr) Q E s := by
  have XX := X.keeps F.keep
  have I : InstAt s.heap x ⟨.ref Cc, some dx, dt, sl⟩ Cc (some od) := ⟨XX _ _ hx, rfl, hno, XX _ _ hdx⟩
  refine get_tup XX I hga hgk h2 (findObj_data (by rw [hc]; rfl) ha hn ht) fun A' d1 d2 d3 => ?_
  refine C p loose mg mb A' { s with toks := s.toks + 1 } _ _ XX (T.keeps F.keep) (hd.like d1 d2 d3 (by decide)) fun h' tk' v k hv => ?_
  rw [handedOut_of (hR v hv)]
  exact wpAny_pure (ret h' tk' v (kept_frame F k) (kept_news N k) hv)
theorem get_tgI {prog : Program} {w : World} {A : Around} {E : Value → Shared → Prop} {s : Shared} {K : Frag} {Cc L x tg dx : Addr} {g : Heap} {m : Str → Option Value} {name : Str} {news : List (Addr × Obj)} {p : Program} {loose : List Str} {mg mb : Str → Option Value} {dt : Data} {sl : Array (Option Value)} {od : Obj} {cd : ClassData} {y : Int} {expr : Bool} {Q : Value → Shared → Prop}
    (C : TgK K prog w tg x Cc (fun v => ∃ t, v = .int y t)) (F : Fr g L s.heap m) (N : News g L s.heap news) (X : K.In g) (T : TopRead p loose mg mb g) (hx : K.lookup x = some ⟨.ref Cc, some dx, dt, sl⟩) (hdx : K.lookup dx = some od) (hno : notCls ⟨.ref Cc, some dx, dt, sl⟩ = true)
    (hga : findIn K (.ref Cc) "__getattribute__" = some (some (.builtin "tuple.__getattribute__"))) (hgk : findIn K (.ref Cc) "__getattr__" = some none) (h2 : subIn K (.ref Cc) (.type "tuple") = some true) (hc : clsIn K Cc = some cd)
    (ha : findIn K (.ref Cc) name = some (some (.ref tg))) (hn : specialIn K (.ref tg) "__get__" = some (some (.ref 320))) (ht : takesIn K (.ref tg) = some true) (hd : ArOk A 7)
    (ret : ∀ h' tk' t, Fr g L h' m → News g L h' news → Q (.int y t) { s with heap := h', toks := tk' }) : wpAny (model prog w) A (getAttr (.ref x) name expr) Q E s :=
  get_tgK C F N X T hx hdx hno hga hgk h2 hc ha hn ht (fun v hv => by obtain ⟨t, rfl⟩ := hv; rfl) hd fun h' tk' v F' N' hv => by obtain ⟨t, rfl⟩ := hv; exact ret h' tk' t F' N'
theorem get_tgS {prog : Program} {w : World} {A : Around} {E : Value → Shared → Prop} {s : Shared} {K : Frag} {Cc L x tg dx : Addr} {g : Heap} {m : Str → Option Value} {name : Str} {news : List (Addr × Obj)} {p : Program} {loose : List Str} {mg mb : Str → Option Value} {dt : Data} {sl : Array (Option Value)} {od : Obj} {cd : ClassData} {y : Str} {expr : Bool} {Q : Value → Shared → Prop}
    (C : TgK K prog w tg x Cc (fun v => ∃ t, v = .str y t)) (F : Fr g L s.heap m) (N : News g L s.heap news) (X : K.In g) (T : TopRead p loose mg mb g) (hx : K.lookup x = some ⟨.ref Cc, some dx, dt, sl⟩) (hdx : K.lookup dx = some od) (hno : notCls ⟨.ref Cc, some dx, dt, sl⟩ = true)
    (hga : findIn K (.ref Cc) "__getattribute__" = some (some (.builtin "tuple.__getattribute__"))) (hgk : findIn K (.ref Cc) "__getattr__" = some none) (h2 : subIn K (.ref Cc) (.type "tuple") = some true) (hc : clsIn K Cc = some cd)
    (ha : findIn K (.ref Cc) name = some (some (.ref tg))) (hn : specialIn K (.ref tg) "__get__" = some (some (.ref 320))) (ht : takesIn K (.ref tg) = some true) (hd : ArOk A 7)
    (ret : ∀ h' tk' t, Fr g L h' m → News g L h' news → Q (.str y t) { s with heap := h', toks := tk' }) : wpAny (model prog w) A (getAttr (.ref x) name expr) Q E s :=
  get_tgK C F N X T hx hdx hno hga hgk h2 hc ha hn ht (fun v hv => by obtain ⟨t, rfl⟩ := hv; rfl) hd fun h' tk' v F' N' hv => by obtain ⟨t, rfl⟩ := hv; exact ret h' tk' t F' N'
noncomputable def itKey (ns : Str) (names : List Str) (amount length : Int) (gran : Str) : Str := Str.empty ++ ns ++ Str.ofString "/" ++ Str.join (Str.ofString "/") (names ++ [dig amount, dig length, gran])
noncomputable def KfC (K : Frag) (prog : Program) (w : World) (C : Addr) (gran : Str) (names : List Str) : Prop :=
  ∀ (p : Program) (loose : List Str) (mg mb : Str → Option Value) (A : Around) (s : Shared) (b : Heap) (it tp : Addr) (ns : Str) (amount length : Int) (vs : List Value) (Q E : Value → Shared → Prop),
    (∀ a o, b.get? a = some o → s.heap.get? a = some o) → K.In b → TopRead p loose mg mb b → ItI w b s.heap C it ns amount length → b.get? tp = none → s.heap.get? tp = some (tupO vs) → StrsAre vs names → ns.length ≤ 20 → 0 ≤ amount → amount ≤ 1000 → 0 ≤ length → length ≤ 1000 → ArOk A 15 →
    (∀ h' tk' t, (∀ b o, s.heap.get? b = some o → h'.get? b = some o) → Q (.str (itKey ns names amount length gran) t) { s with heap := h', toks := tk' }) →
    wpAny (model prog w) A (call (.ref 458) [.ref it, .ref tp]) Q E s
section
variable {prog : Program} {w : World} {A : Around} {E : Value → Shared → Prop} {s : Shared} {h₀ : Heap} {L : Addr} {m : Str → Option Value} {env : Env}
noncomputable def SrcTp (prog : Program) (w : World) (A : Around) (h₀ : Heap) (L : Addr) (m : Str → Option Value) (env : Env) (elt : PySem.Expr) (x : Str) (scope : Scope) (cl : List (Str × Addr)) (Fin : Shared → List Value → List (Addr × Obj) → Prop) (xv : Value) (s₁ : Shared) : Prop :=
  ∃ ax its news, xv = .ref ax ∧ A.handled = none ∧ Fr h₀ L s₁.heap m ∧ News h₀ L s₁.heap news ∧ h₀.IsTuple ax its ∧ its.size ≤ sizeLine ∧
    ∀ s₂ : Shared, (∃ h, s₂ = { s₁ with heap := h }) → LCg.CompRest prog w A h₀ L m env elt x scope cl s₂ (fun _ => True) (fun i v => its[i]? = some v) (Fin s₂) its.size 0 [] news
theorem tuple_st {ax I : Addr} {its : Array Value} (hb : h₀.IsTuple ax its) : ∀ i (h h' : Heap) (o : Obj) (nw : List (Addr × Obj)), (h.IsTupleIter I ax i ∧ h.IsTuple ax its) → h.get? I = some o → h'.get? I = some o → (∀ b o, h₀.get? b = some o → h'.get? b = some o) → News h₀ L h' nw → True → (h'.IsTupleIter I ax i ∧ h'.IsTuple ax its) :=
  fun i h h' o nw st e e' k N S => ⟨by obtain ⟨o', q, r⟩ := st.1; rw [e] at q; cases q; exact ⟨o, e', r⟩, by obtain ⟨o1, q, r⟩ := hb; exact ⟨o1, k _ _ q, r⟩⟩
theorem ListComp_Tp {elt iter : PySem.Expr} {x : Str} {px : Pos} {scope : Scope} {cl : List (Str × Addr)} {pos : Pos} {Q : Value → Shared → Prop} (_F₀ : Fr h₀ L s.heap m)
    (hclos : closureFor scope env = pure cl) (hcell : ∀ y ∈ scope.names, y.2 ≠ .cell) (hkind : scope.kind = .function)
    (hnames : ∀ y ∈ scope.names, y.2 = .local → scope.names.lookup y.1 = some .local) (hx : scope.names.lookup x = some .local)
    (h : wpAny (model prog w) A (eval iter env) (SrcTp prog w A h₀ L m env elt x scope cl (fun s₂ => LCg.FinE h₀ L m s₂ Q)) E s)
    (hs : ∀ x, foldedSetIterable iter env x = pure x := by intro _; rfl) :
    wpAny (model prog w) A (eval (.ListComp elt [⟨.Name x px, iter, [], 0⟩] scope pos) env) Q E s := by
  rw [eval_ListComp]
  refine wpAny_comprehension_free (use := none) rfl hs hclos hkind hnames (wpAny_mono h (fun xv s₁ h₁ => ?_) fun _ _ e => e)
  obtain ⟨ax, its, news, rfl, hh, F, N, S, hsz, R⟩ := h₁
  have hl : s₁.heap.IsTuple ax its := by obtain ⟨o1, q, r⟩ := S; exact ⟨o1, F.keep _ _ q, r⟩
  have hlt : ax < s₁.heap.objs.size := by obtain ⟨_, e, _⟩ := hl; exact Heap.lt_size e
  refine wpAny_pyIter_tuple hl ?_
  have up : ∀ b o, s₁.heap.get? b = some o → (s₁.heap.push { cls := .type "tuple_iterator", data := .fields #[.ref ax, .int 0 0] }).get? b = some o := fun b o e => Heap.get?_push_of_some _ e
  have hl2 : (s₁.heap.push { cls := .type "tuple_iterator", data := .fields #[.ref ax, .int 0 0] }).IsTuple ax its := by obtain ⟨o1, q, r⟩ := hl; exact ⟨o1, up _ _ q, r⟩
  refine LCg.block_U (Walks.tuple hh s₁.heap.objs.size ax (Nat.ne_of_lt hlt) its) hsz (fun i h st => by obtain ⟨o, e, _⟩ := st.1; exact ⟨o, e⟩) (tuple_st S) hcell hkind hx ⟨⟨_, Heap.get?_push_size _ rfl, rfl, rfl⟩, hl2⟩ (fun b hb => ?_)
    (F.keeps up) (N.grown up) (Nat.ne_of_lt F.ns.lt) (next_is_new F) (fun p hp => Nat.ne_of_lt (Heap.lt_size (N p hp).1)) trivial (R _ ⟨_, rfl⟩) ?_
  · show b < (s₁.heap.push _).objs.size
    rw [Heap.size_push]
    rcases List.mem_cons.mp hb with rfl | hb
    · exact Nat.lt_succ_self _
    · rw [List.mem_singleton.mp hb]; exact Nat.lt_succ_of_lt hlt
  · intro D C h tk m' ys news' F' N' o1 hn hC₀ hD₀ hCL hDL hCD offC fin
    refine ⟨m', hn, fun h'' hs'' => fin D h'' tk (F'.change hs'' hCL hC₀) (fun p hp => ?_) o1⟩
    refine ⟨hs''.extBut _ _ ?_ (N' p hp).1, (N' p hp).2⟩
    rcases List.mem_cons.mp hp with rfl | hp
    · exact Ne.symm hCD
    · exact offC p hp
end
theorem srcTp_ {prog : Program} {w : World} {A : Around} {h₀ : Heap} {L : Addr} {m : Str → Option Value} {env : Env} {elt : PySem.Expr} {x : Str} {scope : Scope} {cl : List (Str × Addr)} {Fin : Shared → List Value → List (Addr × Obj) → Prop} {ax : Addr} {vs : List Value} {news : List (Addr × Obj)} {s₁ : Shared}
    (hh : A.handled = none) (F : Fr h₀ L s₁.heap m) (N : News h₀ L s₁.heap news) (ht : h₀.get? ax = some (tupO vs)) (hsz : vs.toArray.size ≤ sizeLine)
    (h : ∀ g, LCg.CompRest prog w A h₀ L m env elt x scope cl { s₁ with heap := g } (fun _ => True) (fun i v => vs.toArray[i]? = some v) (Fin { s₁ with heap := g }) vs.toArray.size 0 [] news) :
    SrcTp prog w A h₀ L m env elt x scope cl Fin (.ref ax) s₁ := ⟨ax, vs.toArray, news, rfl, hh, F, N, ⟨_, ht, rfl, 0, rfl⟩, hsz, fun _ ⟨g, e⟩ => e ▸ h g⟩
theorem strs_app {a b : List Value} {x y : List Str} (h : StrsAre a x) (h2 : StrsAre b y) : StrsAre (a ++ b) (x ++ y) := by
  induction h with
  | nil => exact h2
  | cons z u _ ih => exact .cons z u ih
theorem strs_len {a : List Value} {x : List Str} (h : StrsAre a x) : a.length = x.length := by
  induction h with
  | nil => rfl
  | cons _ _ _ ih => exact congrArg Nat.succ ih
theorem cat_strs {prog : Program} {w : World} {A : Around} {E : Value → Shared → Prop} {s : Shared} {h₀ : Heap} {L a b : Addr} {m : Str → Option Value} {news : List (Addr × Obj)} {its its2 : Array Value} {xs ys : List Str} {Q : Value → Shared → Prop} (F : Fr h₀ L s.heap m) (N : News h₀ L s.heap news) (ha : s.heap.IsList a its) (hb : s.heap.IsList b its2)
    (hi : StrsAre its.toList xs) (hj : StrsAre its2.toList ys) (hz : xs.length + ys.length ≤ 1000)
    (h : ∀ D zs h', Fr h₀ L h' m → News h₀ L h' ((D, listOf (List.toArray zs) 0) :: news) → (∀ p ∈ news, p.1 < D) → StrsAre zs (xs ++ ys) → Q (.ref D) { s with heap := h' }) : wpAny (model prog w) A (binaryOp .Add (.ref a) (.ref b)) Q E s :=
  kmk_add_lit F N ha hb rfl (fun D h' F' N' l => h D _ h' F' N' l (strs_app hi hj)) (by rw [strs_len hi, strs_len hj]; exact Nat.le_trans hz (by decide))
section
variable {prog : Program} {w : World} {A : Around} {h₀ : Heap} {L : Addr} {m : Str → Option Value} {env : Env} {elt : PySem.Expr} {x : Str} {scope : Scope} {cl : List (Str × Addr)} {s : Shared} {S : List (Addr × Obj) → Prop} {Fin : List Value → List (Addr × Obj) → Prop} {news : List (Addr × Obj)}
theorem comp_strs {vs : List Value} {ns : List Str} (hv : StrsAre vs ns)
    (turn : ∀ k t I oI C oC D m₂ ys h tk (E' : Value → Shared → Prop), k ∈ ns → LCg.NsObj oC m₂ → m₂ x = some (.str k t) → Fr h₀ L h m → News h₀ L h ((I, oI) :: (C, oC) :: (D, LCg.lst ys) :: news) → LCg.Off3 I C D news → ((@Ne Nat I C) ∧ (@Ne Nat I D) ∧ (@Ne Nat C D)) →
      wpAny (model prog w) A (eval elt (compEnvC scope cl C env)) (LCg.CompEnd h₀ L m { s with heap := h, toks := tk } I oI C oC D (LCg.lst ys) S (fun y news' => news' = news ∧ ∃ t, y = .str k t)) E' { s with heap := h, toks := tk })
    (fin : ∀ ys, StrsAre ys ns → Fin ys news) : LCg.CompRest prog w A h₀ L m env elt x scope cl s S (fun i v => vs.toArray[i]? = some v) Fin vs.toArray.size 0 [] news := by
  have key : ∀ (r : List Value) (rn : List Str), StrsAre r rn → ∀ (i : Nat) (ys : List Value) (yn : List Str), (∀ j : Nat, vs[i + j]? = r[j]?) → StrsAre ys yn → yn ++ rn = ns → LCg.CompRest prog w A h₀ L m env elt x scope cl s S (fun i v => vs.toArray[i]? = some v) Fin r.length i ys news := by
    intro r rn hr
    induction hr with
    | nil =>
      intro i ys yn _ hy e
      rw [List.append_nil] at e
      exact fin ys (e ▸ hy)
    | cons z u hr ih =>
      intro i ys yn hj hy e v I oI C oC D m₂ h tk E' hv hC hx F N off ne
      obtain rfl : Value.str z u = v := Option.some.inj ((hj 0).symm.trans ((List.getElem?_toArray ..).symm.trans hv))
      refine wpAny_mono (turn z u I oI C oC D m₂ ys h tk E' (e ▸ List.mem_append_right _ (.head _)) hC hx F N off ne) (fun y s₂ hq => ?_) fun _ _ e => e
      obtain ⟨h', tk', nw, e', F', N', off', hS, rfl, t, rfl⟩ := hq
      exact ⟨h', tk', _, e', F', N', off', hS, ih (i + 1) _ (yn ++ [z]) (fun j => by rw [Nat.add_right_comm]; exact hj (j + 1)) (strs_app hy (.cons z t .nil)) (by rw [List.append_assoc]; exact e)⟩
  have k0 := key vs ns hv 0 [] [] (fun j => by rw [Nat.zero_add]) .nil rfl
  exact k0
end
noncomputable def SafeSC (K : Frag) (prog : Program) (w : World) : Prop :=
  ∀ (p : Program) (loose : List Str) (mg mb : Str → Option Value) (g : Heap) (L : Addr) (m : Str → Option Value) (news : List (Addr × Obj)) (A : Around) (s : Shared) (x : Str) (t1 : Tok) (Q E : Value → Shared → Prop),
    Fr g L s.heap m → News g L s.heap news → K.In g → TopRead p loose mg mb g → x.length ≤ 100 → ArOk A 6 →
    (∀ h' tk' t, Fr g L h' m → News g L h' news → Q (.str x t) { s with heap := h', toks := tk' }) → wpAny (model prog w) A (call (.ref 348) [.str x t1]) Q E s
noncomputable def SafeIC (K : Frag) (prog : Program) (w : World) : Prop :=
  ∀ (p : Program) (loose : List Str) (mg mb : Str → Option Value) (g : Heap) (L : Addr) (m : Str → Option Value) (news : List (Addr × Obj)) (A : Around) (s : Shared) (i : Int) (t1 : Tok) (Q E : Value → Shared → Prop),
    Fr g L s.heap m → News g L s.heap news → K.In g → TopRead p loose mg mb g → 0 ≤ i → i ≤ 1000 → ArOk A 6 →
    (∀ h' tk' t, Fr g L h' m → News g L h' news → Q (.str (dig i) t) { s with heap := h', toks := tk' }) → wpAny (model prog w) A (call (.ref 348) [.int i t1]) Q E s
theorem join4_len {a b c d : Str} {n1 n2 n3 n4 : Nat} (h1 : a.length ≤ n1) (h2 : b.length ≤ n2) (h3 : c.length ≤ n3) (h4 : d.length ≤ n4) : (Str.join (Str.ofString "/") [a, b, c, d]).length ≤ n1 + n2 + n3 + n4 + 3 := by
  have hs : (Str.ofString "/").length = 1 := by decide
  rw [join_cons_cons, join_cons_cons, join_cons_cons, join_one]
  simp only [Str.length_append]
  (first | lia | omega)
theorem join5_len {a b c d e : Str} {n1 n2 n3 n4 n5 : Nat} (h1 : a.length ≤ n1) (h2 : b.length ≤ n2) (h3 : c.length ≤ n3) (h4 : d.length ≤ n4) (h5 : e.length ≤ n5) : (Str.join (Str.ofString "/") [a, b, c, d, e]).length ≤ n1 + n2 + n3 + n4 + n5 + 4 := by
  have hs : (Str.ofString "/").length = 1 := by decide
  rw [join_cons_cons, join_cons_cons, join_cons_cons, join_cons_cons, join_one]
  simp only [Str.length_append]
  (first | lia | omega)

theorem tjoin (sep : Str) (l : List Str) : Txt.join sep l = Str.join sep l := by
  have := join_plain_closes sep l
  simpa using this
structure JL (x : Str) : Prop where
  le : x.length ≤ 300
theorem JL.line {x : Str} (h : JL x) : x.length ≤ sizeLine := Nat.le_trans h.le (by decide)
theorem JL.line3 {a b : Str} (h : JL a) (h2 : JL b) : (Str.empty ++ a ++ Str.ofString "/" ++ b).length ≤ sizeLine := by
  have e : (Str.ofString "/").length = 1 := by decide
  have e2 : Str.empty.length = 0 := by decide
  have := h.le; have := h2.le
  simp only [Str.length_append, sizeLine_eq]
  (first | lia | omega)
theorem JL.line2 {a : Str} (h : JL a) : (Str.empty ++ a ++ Str.ofString "/").length ≤ sizeLine := by
  have e : (Str.ofString "/").length = 1 := by decide
  have e2 : Str.empty.length = 0 := by decide
  have := h.le
  simp only [Str.length_append, sizeLine_eq]
  (first | lia | omega)
theorem JL.line1 {a : Str} (h : JL a) : (Str.empty ++ a).length ≤ sizeLine := by
  have e2 : Str.empty.length = 0 := by decide
  have := h.le
  simp only [Str.length_append, sizeLine_eq]
  (first | lia | omega)
structure JW (ys : List Str) : Prop where
  le : (ys.map (·.length)).sum + ys.length ≤ 1048576
theorem join_listS {prog : Program} {w : World} {A : Around} {E : Value → Shared → Prop} {s : Shared} {x : Str} {t : Tok} {Q : Value → Shared → Prop} {D : Addr} {items : Array Value} {ys : List Str} (hl : s.heap.IsList D items) (hi : StrsAre items.toList ys) (hsep : x.length ≤ 16) (hw : JW ys) (hj : JL (Str.join x ys))
    (h : ∀ t' k y, y = Str.join x ys → JL y → Q (.str y t') { s with toks := k }) : wpAny (model prog w) A (call (.builtin "str.join") [.str x t, .ref D]) Q E s :=
  join_listW hl hi hsep hw.le (by rw [tjoin]; exact fun t' k => h t' k _ rfl hj)

theorem JW.of4 {a b c d : Str} (h1 : JL a) (h2 : JL b) (h3 : JL c) (h4 : JL d) : JW [a, b, c, d] := ⟨by
  have := h1.le; have := h2.le; have := h3.le; have := h4.le
  simp only [List.map_cons, List.map_nil, List.sum_cons, List.sum_nil, List.length_cons, List.length_nil]; (first | lia | omega)⟩
theorem JW.of5 {a b c d e : Str} (h1 : JL a) (h2 : JL b) (h3 : JL c) (h4 : JL d) (h5 : JL e) : JW [a, b, c, d, e] := ⟨by
  have := h1.le; have := h2.le; have := h3.le; have := h4.le; have := h5.le
  simp only [List.map_cons, List.map_nil, List.sum_cons, List.sum_nil, List.length_cons, List.length_nil]; (first | lia | omega)⟩
theorem JL.j4 {a d : Str} {x y : Int} (h1 : a.length ≤ 10) (h2 : 0 ≤ x ∧ x ≤ 1000) (h3 : 0 ≤ y ∧ y ≤ 1000) (h4 : d.length ≤ 10) : JL (Str.join (Str.ofString "/") [a, dig x, dig y, d]) ∧ JW [a, dig x, dig y, d] := by
  have l2 := dig_len (i := x) (by (first | lia | omega)) (by (first | lia | omega))
  have l3 := dig_len (i := y) (by (first | lia | omega)) (by (first | lia | omega))
  exact ⟨⟨Nat.le_trans (join4_len h1 l2 l3 h4) (by decide)⟩, .of4 ⟨by (first | lia | omega)⟩ ⟨by (first | lia | omega)⟩ ⟨by (first | lia | omega)⟩ ⟨by (first | lia | omega)⟩⟩
theorem JL.j5 {a b d : Str} {x y : Int} (h1 : a.length ≤ 10) (hb : b.length ≤ 10) (h2 : 0 ≤ x ∧ x ≤ 1000) (h3 : 0 ≤ y ∧ y ≤ 1000) (h4 : d.length ≤ 10) : JL (Str.join (Str.ofString "/") [a, b, dig x, dig y, d]) ∧ JW [a, b, dig x, dig y, d] := by
  have l2 := dig_len (i := x) (by (first | lia | omega)) (by (first | lia | omega))
  have l3 := dig_len (i := y) (by (first | lia | omega)) (by (first | lia | omega))
  exact ⟨⟨Nat.le_trans (join5_len h1 hb l2 l3 h4) (by decide)⟩, .of5 ⟨by (first | lia | omega)⟩ ⟨by (first | lia | omega)⟩ ⟨by (first | lia | omega)⟩ ⟨by (first | lia | omega)⟩ ⟨by (first | lia | omega)⟩⟩

structure St where
  fs : Str → Option Int
  fe : Str → Option Int
  fv : Str → Option (List (Int × Int))
structure Ob where
  (s e v t t5 : Obj)
noncomputable abbrev Ids.M (S : Ids) : List Addr := 640 :: 588 :: S.W
structure Ids.Ok5 (S : Ids) : Prop where
  a : (@Ne Nat 640 S.ds) ∧ (@Ne Nat 640 S.de) ∧ (@Ne Nat 640 S.dv)
  b : (@Ne Nat 588 S.ds) ∧ (@Ne Nat 588 S.de) ∧ (@Ne Nat 588 S.dv)
noncomputable def LamLg (lg : List (Addr × Obj)) (pos : Pos) (qual : Str) (ot : Obj) : Prop :=
  ot = tabObj #[] ∨ ∃ (c' : Addr) (oc : Obj) (vs : Array Value) (t : Tok), ot = tabObj #[rawInt pos.line, rawInt pos.col, .ref c'] ∧ (c', oc) ∈ lg ∧ oc.data = .fields vs ∧ vs[1]? = some (.str qual t)
theorem LamLg.more {lg lg' : List (Addr × Obj)} {pos : Pos} {qual : Str} {ot : Obj} (h : LamLg lg pos qual ot) (s : ∀ q ∈ lg, q ∈ lg') : LamLg lg' pos qual ot :=
  h.imp id fun ⟨c', oc, vs, t, a, b, c⟩ => ⟨c', oc, vs, t, a, s _ b, c⟩
theorem LamLg.tab {lg : List (Addr × Obj)} {pos : Pos} {qual : Str} {ot : Obj} {h : Heap} (x : LamLg lg pos qual ot) (s : ∀ q ∈ lg, h.get? q.1 = some q.2) : LamTab h pos qual ot :=
  x.imp id fun ⟨c', oc, vs, t, a, b, c⟩ => ⟨c', oc, vs, t, a, s _ b, c⟩
noncomputable abbrev gmwQ : Str := "MemoryStorage.get_moving_window.<locals>.<lambda>"
noncomputable abbrev expQ : Str := "MemoryStorage.expire_events.<locals>.<lambda>"
noncomputable abbrev expPos : Pos := { line := 414, col := 64, endLine := 414, endCol := 91 }
structure Bd (σ : St) (c : Nat) : Prop where
  bs : ∀ k i, σ.fs k = some i → 0 ≤ i ∧ i ≤ 1000 * c
  be : ∀ k i, σ.fe k = some i → 0 ≤ i ∧ i < 2 ^ 32
  bv : ∀ k es, σ.fv k = some es → es.length ≤ 1000 * c
  bq : ∀ k es, σ.fv k = some es → ∀ q ∈ es, 0 ≤ q.1 ∧ q.1 < 2 ^ 30
theorem sGet_sub {fs fe : Str → Option Int} {now : Int} {k x : Str} {i : Int} : ((sGet fs fe now k).1 x = some i → fs x = some i) ∧ ((sGet fs fe now k).2.1 x = some i → fe x = some i) := by
  unfold sGet
  split
  · constructor
    · intro h; simp only [era] at h; split at h
      · cases h
      · exact h
    · intro h; simp only [era] at h; split at h
      · cases h
      · exact h
  · exact ⟨id, id⟩
theorem sGet_v {fs fe : Str → Option Int} {now : Int} {k : Str} {c : Nat} (h : ∀ k i, fs k = some i → 0 ≤ i ∧ i ≤ 1000 * c) : 0 ≤ (sGet fs fe now k).2.2 ∧ (sGet fs fe now k).2.2 ≤ 1000 * c := by
  rw [← sGet_val]
  cases q : (sGet fs fe now k).1 k with
  | none => exact ⟨Int.le_refl _, by show (0 : Int) ≤ _; (first | lia | omega)⟩
  | some i => exact h _ _ (sGet_sub.1 q)
theorem sIncr_sub {fs fe : Str → Option Int} {now e a : Int} {k x : Str} {i : Int} : ((sIncr fs fe now k e a).1 x = some i → i = (sGet fs fe now k).2.2 + a ∨ fs x = some i) ∧ ((sIncr fs fe now k e a).2.1 x = some i → i = now + e ∨ fe x = some i) := by
  unfold sIncr
  dsimp only
  split
  · constructor
    · intro h; simp only [upd] at h; split at h
      · left; rw [← sGet_val]; exact (Option.some.inj h).symm
      · exact .inr (sGet_sub.1 h)
    · intro h; simp only [upd] at h; split at h
      · exact .inl (Option.some.inj h).symm
      · exact .inr (sGet_sub.2 h)
  · constructor
    · intro h; simp only [upd] at h; split at h
      · left; rw [← sGet_val]; exact (Option.some.inj h).symm
      · exact .inr (sGet_sub.1 h)
    · intro h; exact .inr (sGet_sub.2 h)
theorem Bd.get {σ : St} {c : Nat} {now : Int} {k : Str} (h : Bd σ c) : Bd ⟨(sGet σ.fs σ.fe now k).1, (sGet σ.fs σ.fe now k).2.1, σ.fv⟩ c :=
  ⟨fun x i e => h.bs x i (sGet_sub.1 e), fun x i e => h.be x i (sGet_sub.2 e), h.bv, h.bq⟩
theorem Bd.incr {σ : St} {c : Nat} {now e a : Int} {k : Str} (h : Bd σ c) (h0 : 0 ≤ now + e) (h1 : now + e < 2 ^ 32) (a0 : 0 ≤ a) (a1 : a ≤ 1000) : Bd ⟨(sIncr σ.fs σ.fe now k e a).1, (sIncr σ.fs σ.fe now k e a).2.1, σ.fv⟩ (c + 1) :=
  ⟨fun x i z => by
    rcases sIncr_sub.1 z with q | q
    · have := sGet_v (fe := σ.fe) (now := now) (k := k) h.bs; (first | lia | omega)
    · have := h.bs x i q; (first | lia | omega), fun x i z => by
    rcases sIncr_sub.2 z with q | q
    · (first | lia | omega)
    · exact h.be x i q, fun x es z => Nat.le_trans (h.bv x es z) (by (first | lia | omega)), h.bq⟩
theorem era_sub {α : Type} {f : Str → Option α} {k x : Str} {i : α} (h : era f k x = some i) : f x = some i := by
  unfold era at h
  split at h
  · cases h
  · exact h
theorem Bd.era {σ : St} {c : Nat} {k : Str} (h : Bd σ c) : Bd ⟨Mine.era σ.fs k, Mine.era σ.fe k, Mine.era σ.fv k⟩ c :=
  ⟨fun x i e => h.bs x i (era_sub e), fun x i e => h.be x i (era_sub e), fun x i e => h.bv x i (era_sub e), fun x i e => h.bq x i (era_sub e)⟩
theorem Bd.up {σ : St} {c : Nat} (h : Bd σ c) : Bd σ (c + 1) := ⟨fun x i e => by have := h.bs x i e; (first | lia | omega), h.be, fun x i e => Nat.le_trans (h.bv x i e) (by (first | lia | omega)), h.bq⟩
theorem Bd.getD {σ : St} {c : Nat} {k : Str} (h : Bd σ c) : ((σ.fv k).getD []).length ≤ 1000 * c ∧ ∀ q ∈ (σ.fv k).getD [], 0 ≤ q.1 ∧ q.1 < 2 ^ 30 := by
  cases e : σ.fv k with
  | none => exact ⟨Nat.zero_le _, fun _ h => nomatch h⟩
  | some es => exact ⟨h.bv k es e, h.bq k es e⟩
theorem Bd.acq {σ : St} {c : Nat} {now li ex a : Int} {k : Str} (h : Bd σ c) (n0 : 0 ≤ now) (n1 : now < 2 ^ 30) (a1 : a ≤ 1000) : Bd ⟨σ.fs, σ.fe, (sAcq σ.fv now k li ex a).1⟩ (c + 1) := by
  have hu := h.up
  have hd := h.getD (k := k)
  refine ⟨hu.bs, hu.be, fun x es e => ?_, fun x es e => ?_⟩
  · unfold sAcq at e
    split at e
    · exact hu.bv x es e
    · split at e
      · simp only [upd] at e; split at e
        · cases e; exact Nat.le_trans hd.1 (by (first | lia | omega))
        · exact hu.bv x es e
      · simp only [upd] at e; split at e
        · cases e; rw [List.length_append, List.length_replicate]; have := hd.1; (first | lia | omega)
        · exact hu.bv x es e
  · unfold sAcq at e
    split at e
    · exact h.bq x es e
    · split at e
      · simp only [upd] at e; split at e
        · cases e; exact hd.2
        · exact h.bq x es e
      · simp only [upd] at e; split at e
        · cases e
          intro q hq
          rcases List.mem_append.mp hq with hq | hq
          · rw [List.eq_of_mem_replicate hq]; exact ⟨n0, n1⟩
          · exact hd.2 q hq
        · exact h.bq x es e
theorem Bd.acqsw {σ : St} {c : Nat} {now li ex a : Int} {pk ck : Str} (h : Bd σ c) (h0 : 0 ≤ now + 2 * ex) (h1 : now + 2 * ex < 2 ^ 32) (a0 : 0 ≤ a) (a1 : a ≤ 1000) : Bd ⟨(sAcqSw σ.fs σ.fe now pk ck li ex a).1, (sAcqSw σ.fs σ.fe now pk ck li ex a).2.1, σ.fv⟩ (c + 1) := by
  unfold sAcqSw
  split
  · exact h.up
  · split
    · exact ((h.get (now := now) (k := pk)).get (now := now) (k := ck)).up
    · exact ((h.get (now := now) (k := pk)).get (now := now) (k := ck)).incr h0 h1 a0 a1
theorem Bd.pc {σ : St} {c : Nat} {fe : Str → Option Int} {now : Int} {k : Str} (h : Bd σ c) : 0 ≤ iPc σ.fs fe now k ∧ iPc σ.fs fe now k ≤ 1000 * c := sGet_v h.bs
theorem iPt_bnd {fs fe : Str → Option Int} {now expiry : Int} {pk : Str} (h0 : 0 < expiry) : 0 ≤ iPt fs fe now pk expiry ∧ iPt fs fe now pk expiry ≤ expiry := by
  unfold iPt; have := fmod_bnd (x := now - expiry) h0; split <;> (first | lia | omega)
structure Dat (prog : Program) (w : World) (lg : List (Addr × Obj)) (O : Ob) (σ : St) (c : Nat) : Prop where
  s : IObj prog w O.s σ.fs c
  e : IObj prog w O.e σ.fe c
  v : VObj prog w lg O.v σ.fv c
  t : LamLg lg gmwPos gmwQ O.t
  t5 : LamLg lg expPos expQ O.t5
  b : Bd σ c
  hc : c ≤ 80
structure SB (prog : Program) (w : World) (K : Frag) (p : Program) (loose : List Str) (mean : ExcName → Option Value) (mg mb : Str → Option Value) (base : Heap) (S : Ids) (now : Int) (lg : List (Addr × Obj)) : Prop where
  ok : S.Ok
  o5 : S.Ok5
  X : K.In base
  T : Top p loose mean mg mb base
  C1 : CodeHd base 644 640
  C2 : CodeHd base 592 588
  I : StI prog w base S now
  lgb : ∀ q ∈ lg, base.get? q.1 = some q.2
structure Sto (prog : Program) (w : World) (K : Frag) (p : Program) (loose : List Str) (mean : ExcName → Option Value) (mg mb : Str → Option Value) (A : Around) (base : Heap) (outer : List Env) (h : Heap) (S : Ids) (now : Int) (O : Ob) (σ : St) (c : Nat) (lg : List (Addr × Obj)) : Prop where
  Z : SB prog w K p loose mean mg mb base S now lg
  B : Below A base outer (hideAll h S.M)
  s : h.get? S.ds = some O.s
  e : h.get? S.de = some O.e
  v : h.get? S.dv = some O.v
  t : h.get? 640 = some O.t
  t5 : h.get? 588 = some O.t5
  D : Dat prog w lg O σ c
structure Aft (prog : Program) (w : World) (outer : List Env) (h h' : Heap) (S : Ids) (O : Ob) (σ : St) (c : Nat) (lg lg' : List (Addr × Obj)) (g' : Heap) : Prop where
  T : KtsTurn (outer.filterMap (·.frame)) (hideAll h S.M) g'
  k : ∀ b o, g'.get? b = some o → h'.get? b = some o
  s : h'.get? S.ds = some O.s
  e : h'.get? S.de = some O.e
  v : h'.get? S.dv = some O.v
  t : h'.get? 640 = some O.t
  t5 : h'.get? 588 = some O.t5
  n : ∀ q ∈ lg', h'.get? q.1 = some q.2 ∧ h.get? q.1 = none
  D : Dat prog w (lg' ++ lg) O σ c
noncomputable abbrev five (S : Ids) (O : Ob) : List (Addr × Obj) := [(640, O.t), (588, O.t5), (S.ds, O.s), (S.de, O.e), (S.dv, O.v)]
theorem mem_M {S : Ids} {a : Addr} (h : a ∈ S.M) : a = 640 ∨ a = 588 ∨ a = S.ds ∨ a = S.de ∨ a = S.dv := by
  simpa only [Ids.W, List.mem_cons, List.not_mem_nil, or_false] using h
theorem Sto.own {prog w K p loose mean mg mb A base outer h S now O σ c lg} (P : Sto prog w K p loose mean mg mb A base outer h S now O σ c lg) : ∀ q ∈ five S O, h.get? q.1 = some q.2 ∧ q.1 ∈ S.M := by
  exact List.forall_mem_cons.mpr ⟨⟨P.t, by k_mem⟩, List.forall_mem_cons.mpr ⟨⟨P.t5, by k_mem⟩, List.forall_mem_cons.mpr ⟨⟨P.s, by k_mem⟩, List.forall_mem_cons.mpr ⟨⟨P.e, by k_mem⟩, List.forall_mem_cons.mpr ⟨⟨P.v, by k_mem⟩, fun _ h => nomatch h⟩⟩⟩⟩⟩
section
variable {prog : Program} {w : World} {K : Frag} {p : Program} {loose : List Str} {mean : ExcName → Option Value} {mg mb : Str → Option Value} {A A₀ : Around} {base g h h' : Heap} {outer : List Env} {L a : Addr} {m : Str → Option Value} {name : Str} {scope : Scope} {cd : Value}
  {news : List (Addr × Obj)} {S : Ids} {now : Int} {O O' : Ob} {σ σ' : St} {c c' : Nat} {lg lg' : List (Addr × Obj)} {g' : Heap}
theorem M_none (N : News g L h news) (mt : (640, O.t) ∈ news) (m5 : (588, O.t5) ∈ news) (ms : (S.ds, O.s) ∈ news) (me : (S.de, O.e) ∈ news) (mv : (S.dv, O.v) ∈ news) : ∀ a ∈ S.M, a ≠ L ∧ g.get? a = none := by
  intro a ha
  rcases mem_M ha with rfl | rfl | rfl | rfl | rfl
  · exact (N _ mt).2
  · exact (N _ m5).2
  · exact (N _ ms).2
  · exact (N _ me).2
  · exact (N _ mv).2
theorem fr_M (F : Fr g L h m) (hn : ∀ a ∈ S.M, a ≠ L ∧ g.get? a = none) : Fr g L (hideAll h S.M) m := by
  obtain ⟨oL, es, ep, hL, r⟩ := F.ns
  exact ⟨⟨oL, es, ep, hideAll_get _ hL (fun hm => (hn _ hm).1 rfl), r⟩, hidden F.keep (fun a ha => (hn a ha).2), F.above⟩
theorem sto_call (Z : SB prog w K p loose mean mg mb base S now lg) (KB : Below A₀ base outer g) (F : Fr g L h m) (N : News g L h news) (mt : (640, O.t) ∈ news) (m5 : (588, O.t5) ∈ news) (ms : (S.ds, O.s) ∈ news) (me : (S.de, O.e) ∈ news) (mv : (S.dv, O.v) ∈ news)
    (D : Dat prog w lg O σ c) (hk : scope.kind = .function) : Sto prog w K p loose mean mg mb (A₀.deeper (envOf name scope L a cd)) base (envOf name scope L a cd :: outer) h S now O σ c lg :=
  ⟨Z, KB.push (fr_M F (M_none N mt m5 ms me mv)) hk, (N _ ms).1, (N _ me).1, (N _ mv).1, (N _ mt).1, (N _ m5).1, D⟩
theorem upd_step {d : Addr} {o o' : Obj} {l nw news : List (Addr × Obj)} {done : List Addr} {gf : Obj → List (Addr × Obj)} (U : UpdF d o l gf) (h : ∀ q ∈ l, q ∈ nw ∨ (q ∈ news ∧ q.1 ∉ done)) (hm : (d, o') ∈ nw) :
    ∀ q ∈ gf o', q ∈ nw ∨ (q ∈ news ∧ q.1 ∉ d :: done) := by
  obtain ⟨pre, post, e, f, n1, n2⟩ := U.split
  intro q hq
  rw [f] at hq
  have key : q ∈ l → q.1 ≠ d → q ∈ nw ∨ (q ∈ news ∧ q.1 ∉ d :: done) := fun hl hne => (h q hl).imp id fun ⟨x, y⟩ => ⟨x, fun hm => (List.mem_cons.mp hm).elim hne y⟩
  rcases List.mem_append.mp hq with hq | hq
  · exact key (by rw [e]; exact List.mem_append_left _ hq) (n1 q hq)
  · rcases List.mem_cons.mp hq with rfl | hq
    · exact .inl hm
    · exact key (by rw [e]; exact List.mem_append_right _ (List.mem_cons_of_mem _ hq)) (n2 q hq)
theorem aft_use {g1 : Obj → List (Addr × Obj)} {g2 : Obj → Obj → List (Addr × Obj)} {g3 : Obj → Obj → Obj → List (Addr × Obj)} {g4 : Obj → Obj → Obj → Obj → List (Addr × Obj)} {g5 : Obj → Obj → Obj → Obj → Obj → List (Addr × Obj)} {Goal : Prop}
    (KB : Below A₀ base outer g) (XB : K.In base) (TB : Top p loose mean mg mb base) (F : Fr g L h m) (N : News g L h news) (mt : (640, O.t) ∈ news) (m5 : (588, O.t5) ∈ news) (ms : (S.ds, O.s) ∈ news) (me : (S.de, O.e) ∈ news) (mv : (S.dv, O.v) ∈ news)
    (U1 : UpdF 640 O.t news g1) (U2 : ∀ x, UpdF 588 O.t5 (g1 x) (g2 x)) (U3 : ∀ x y, UpdF S.ds O.s (g2 x y) (g3 x y)) (U4 : ∀ x y z, UpdF S.de O.e (g3 x y z) (g4 x y z)) (U5 : ∀ x y z u, UpdF S.dv O.v (g4 x y z u) (g5 x y z u))
    (P : Aft prog w (envOf name scope L a cd :: outer) h h' S O' σ' c' lg lg' g')
    (k : ∀ g₂, KtsTurn (outer.filterMap (·.frame)) g g₂ → Fr g₂ L h' m → News g₂ L h' (g5 O'.t O'.t5 O'.s O'.e O'.v ++ lg') → Below A₀ base outer g₂ → K.In g₂ → TopRead p loose mg mb g₂ → (∀ q ∈ lg', q.1 ∉ S.M) → Goal) : Goal := by
  have hn := M_none N mt m5 ms me mv
  have FH := fr_M F hn
  obtain ⟨g₂, T₂, F₂, K₂⟩ := kts_ground (name := name) (scope := scope) (a := a) (cd := cd) KB FH P.T.other P.k (fun b o e _ => by
    obtain ⟨sl, hs⟩ := P.T.up e
    exact ⟨sl, P.k _ _ hs⟩)
  have nw : ∀ q ∈ five S O', h'.get? q.1 = some q.2 ∧ q.1 ≠ L ∧ g₂.get? q.1 = none := by
    exact List.forall_mem_cons.mpr ⟨⟨P.t, (N _ mt).2.1, T₂.none_ _ (N _ mt).2.2⟩, List.forall_mem_cons.mpr ⟨⟨P.t5, (N _ m5).2.1, T₂.none_ _ (N _ m5).2.2⟩, List.forall_mem_cons.mpr ⟨⟨P.s, (N _ ms).2.1, T₂.none_ _ (N _ ms).2.2⟩, List.forall_mem_cons.mpr ⟨⟨P.e, (N _ me).2.1, T₂.none_ _ (N _ me).2.2⟩, List.forall_mem_cons.mpr ⟨⟨P.v, (N _ mv).2.1, T₂.none_ _ (N _ mv).2.2⟩, fun _ h => nomatch h⟩⟩⟩⟩⟩
  have s1 := upd_step (o' := O'.t) (nw := five S O') (news := news) (done := []) U1 (fun q hq => .inr ⟨hq, List.not_mem_nil⟩) (by k_mem)
  have s2 := upd_step (o' := O'.t5) (U2 O'.t) s1 (by k_mem)
  have s3 := upd_step (o' := O'.s) (U3 O'.t O'.t5) s2 (by k_mem)
  have s4 := upd_step (o' := O'.e) (U4 O'.t O'.t5 O'.s) s3 (by k_mem)
  have s5 := upd_step (o' := O'.v) (U5 O'.t O'.t5 O'.s O'.e) s4 (by k_mem)
  have lM : ∀ q ∈ lg', q.1 ∉ S.M := by
    intro q hq hm
    have hno := (P.n q hq).2
    rcases mem_M hm with e | e | e | e | e
    · rw [e, (N _ mt).1] at hno; cases hno
    · rw [e, (N _ m5).1] at hno; cases hno
    · rw [e, (N _ ms).1] at hno; cases hno
    · rw [e, (N _ me).1] at hno; cases hno
    · rw [e, (N _ mv).1] at hno; cases hno
  refine k g₂ T₂ F₂ (fun q hq => ?_) K₂ (XB.keeps K₂.stays) ((topRead_of TB).keeps K₂.stays) lM
  rcases List.mem_append.mp hq with hq | hq
  · rcases s5 q hq with hq | ⟨hq, hd⟩
    · exact nw q hq
    · have hM : q.1 ∉ S.M := fun hm => hd (by
        rcases mem_M hm with e | e | e | e | e <;> rw [e] <;> simp)
      have hN := N q hq
      refine ⟨P.k _ _ (P.T.other _ _ (hideAll_get _ hN.1 hM) fun hm => ?_), hN.2.1, T₂.none_ _ hN.2.2⟩
      rcases kts_mem hm with e | hm
      · exact hN.2.1 e
      · obtain ⟨_, o, ho, _⟩ := KB.frames.mem hm
        rw [hN.2.2] at ho; cases ho
  · have hN := P.n q hq
    refine ⟨hN.1, fun e => ?_, T₂.none_ _ ?_⟩
    · obtain ⟨oL, _, _, hL, _⟩ := F.ns
      rw [← e, hN.2] at hL; cases hL
    · cases z : g.get? q.1 with
      | none => rfl
      | some o => have := F.keep _ _ z; rw [hN.2] at this; cases this
theorem aft_of (hg : hideAll h S.M = g) (T : KtsTurn (outer.filterMap (·.frame)) g g') (F : Fr g' L h' m) (N : News g' L h' news) (mt : (640, O'.t) ∈ news) (m5 : (588, O'.t5) ∈ news) (ms : (S.ds, O'.s) ∈ news) (me : (S.de, O'.e) ∈ news) (mv : (S.dv, O'.v) ∈ news)
    (hl : ∀ q ∈ lg', q ∈ news ∧ q.1 ∉ S.M) (D : Dat prog w (lg' ++ lg) O' σ' c') : Aft prog w outer h h' S O' σ' c' lg lg' g' :=
  ⟨hg ▸ T, F.keep, (N _ ms).1, (N _ me).1, (N _ mv).1, (N _ mt).1, (N _ m5).1, fun q hq => ⟨(N _ (hl q hq).1).1, by
    cases z : h.get? q.1 with
    | none => rfl
    | some o =>
      have h2 := hideAll_get S.M z (hl q hq).2
      rw [hg] at h2
      obtain ⟨sl, hs⟩ := T.up h2
      rw [(N _ (hl q hq).1).2.2] at hs; cases hs⟩, D⟩
end
theorem aft_at {prog : Program} {w : World} {g g' h h' : Heap} {outer : List Env} {L : Addr} {m : Str → Option Value} {news : List (Addr × Obj)} {S : Ids} {os oe ov ot o5 : Obj} {σ' : St} {c' : Nat} {lg lg' : List (Addr × Obj)}
    (hg : hideAll h S.M = g) (T : KtsTurn (outer.filterMap (·.frame)) g g') (F : Fr g' L h' m) (N : News g' L h' news) (mt : (640, ot) ∈ news) (m5 : (588, o5) ∈ news) (ms : (S.ds, os) ∈ news) (me : (S.de, oe) ∈ news) (mv : (S.dv, ov) ∈ news)
    (hl : ∀ q ∈ lg', q ∈ news ∧ q.1 ∉ S.M) (D : Dat prog w (lg' ++ lg) ⟨os, oe, ov, ot, o5⟩ σ' c') : Aft prog w outer h h' S ⟨os, oe, ov, ot, o5⟩ σ' c' lg lg' g' := aft_of (O' := ⟨os, oe, ov, ot, o5⟩) hg T F N mt m5 ms me mv hl D
structure ItK (K : Frag) (C : Addr) : Prop where
  a1 : plainGet K C "amount" = true
  a2 : hasDictIn K C = true
  a3 : findIn K (.ref C) "amount" = some none
  k1 : plainGet K C "key_for" = true
  k2 : findIn K (.ref C) "key_for" = some (some (.ref 458))
  g1 : plainGet K C "get_expiry" = true
  g2 : findIn K (.ref C) "get_expiry" = some (some (.ref 451))
  f1 : isFn K (.ref 458) = true
  f2 : isFn K (.ref 451) = true
  n1 : noGet K none = true
structure ItA (prog : Program) (w : World) (K : Frag) (base : Heap) (it tp : Addr) (key : Str) (amount ex : Int) : Prop where
  ex0 : ∃ C dx es n t, ItK K C ∧ base.get? it = some (instObj C dx) ∧ base.get? dx = some (dictOf es n) ∧ getL "amount" es = some (some (.int amount t)) ∧ getL "key_for" es = some none ∧ getL "get_expiry" es = some none
  kf : ∀ (A : Around) (s : Shared) (Q E : Value → Shared → Prop), ArOk A 15 → (∀ b o, base.get? b = some o → s.heap.get? b = some o) →
    (∀ h' tk' t, (∀ b o, s.heap.get? b = some o → h'.get? b = some o) → Q (.str key t) { s with heap := h', toks := tk' }) → wpAny (model prog w) A (call (.ref 458) [.ref it, .ref tp]) Q E s
  ge : ∀ (A : Around) (s : Shared) (Q E : Value → Shared → Prop), ArOk A 12 → (∀ b o, base.get? b = some o → s.heap.get? b = some o) →
    (∀ h' tk' t, (∀ b o, s.heap.get? b = some o → h'.get? b = some o) → Q (.int ex t) { s with heap := h', toks := tk' }) → wpAny (model prog w) A (call (.ref 451) [.ref it]) Q E s
  ha : 0 ≤ amount ∧ amount ≤ 50
  hx : 1 ≤ ex ∧ ex ≤ 1000
  hk : key.length ≤ 800
structure ItAt (b g : Heap) : Prop where
  s : ∀ a o, b.get? a = some o → g.get? a = some o
section
variable {prog : Program} {w : World} {K : Frag} {A : Around} {E : Value → Shared → Prop} {s : Shared} {base g : Heap} {L it tp : Addr} {m : Str → Option Value} {news : List (Addr × Obj)} {key : Str} {amount ex : Int}
theorem it_amount {expr : Bool} {Q : Value → Shared → Prop} (I : ItA prog w K base it tp key amount ex) (F : Fr g L s.heap m) (X : K.In g) (B : base.StaysIn g) (h : ∀ t, Q (.int amount t) { s with toks := s.toks + 1 }) : wpAny (model prog w) A (getAttr (.ref it) "amount" expr) Q E s := by
  obtain ⟨C, dx, es, n, t, k, i1, i2, e1, _, _⟩ := I.ex0
  exact getOwnG F X (B _ _ i1) (B _ _ i2) k.a1 k.a2 k.a3 k.n1 e1 rfl (h t)
theorem it_kmeth {pl : Sem Bool} {Q : Value × List Value → Shared → Prop} (I : ItA prog w K base it tp key amount ex) (F : Fr g L s.heap m) (X : K.In g) (B : base.StaysIn g) (h : Q (.ref 458, [.ref it]) s) : wpAny (model prog w) A (getMethod (.ref it) "key_for" pl) Q E s := by
  obtain ⟨C, dx, es, n, t, k, i1, i2, _, e1, _⟩ := I.ex0
  exact methG F X (B _ _ i1) (B _ _ i2) k.k1 k.k2 k.f1 e1 h
theorem it_gmeth {pl : Sem Bool} {Q : Value × List Value → Shared → Prop} (I : ItA prog w K base it tp key amount ex) (F : Fr g L s.heap m) (X : K.In g) (B : base.StaysIn g) (h : Q (.ref 451, [.ref it]) s) : wpAny (model prog w) A (getMethod (.ref it) "get_expiry" pl) Q E s := by
  obtain ⟨C, dx, es, n, t, k, i1, i2, _, _, e1⟩ := I.ex0
  exact methG F X (B _ _ i1) (B _ _ i2) k.g1 k.g2 k.f2 e1 h
theorem it_kf {Q : Value → Shared → Prop} (I : ItA prog w K base it tp key amount ex) (F : Fr g L s.heap m) (N : News g L s.heap news) (B : base.StaysIn g) (hd : ArOk A 15)
    (h : ∀ h' tk' t, Fr g L h' m → News g L h' news → Q (.str key t) { s with heap := h', toks := tk' }) : wpAny (model prog w) A (call (.ref 458) [.ref it, .ref tp]) Q E s :=
  I.kf A s Q E hd (fun b o e => F.keep b o (B b o e)) fun h' tk' t k => h h' tk' t (kept_frame F k) (kept_news N k)
theorem it_ge {Q : Value → Shared → Prop} (I : ItA prog w K base it tp key amount ex) (F : Fr g L s.heap m) (N : News g L s.heap news) (B : base.StaysIn g) (hd : ArOk A 12)
    (h : ∀ h' tk' t, Fr g L h' m → News g L h' news → Q (.int ex t) { s with heap := h', toks := tk' }) : wpAny (model prog w) A (call (.ref 451) [.ref it]) Q E s :=
  I.ge A s Q E hd (fun b o e => F.keep b o (B b o e)) fun h' tk' t k => h h' tk' t (kept_frame F k) (kept_news N k)
end
noncomputable def LimI (w : World) (base : Heap) (C lim : Addr) (S : Ids) : Prop := ∃ d t, base.get? lim = some (instObj C d) ∧ base.get? d = some (dictOf [⟨PyData.keyHash w.params "storage", .str "storage" t, .ref S.st⟩] 1)
noncomputable abbrev b3 (lim it tp : Addr) (_ : Int) (_ : Tok) : List (Str × Value) := [("self", .ref lim), ("item", .ref it), ("identifiers", .ref tp)]
noncomputable abbrev b4 (lim it tp : Addr) (cost : Int) (t : Tok) : List (Str × Value) := [("self", .ref lim), ("item", .ref it), ("identifiers", .ref tp), ("cost", .int cost t)]
noncomputable def LimK (K : Frag) (prog : Program) (w : World) (f C : Addr) (bs : Addr → Addr → Addr → Int → Tok → List (Str × Value)) (dc : Nat) (σ' : St → Int → Str → Int → Int → Int → St) (R : St → Int → Str → Int → Int → Int → Value → Heap → Heap → Prop) : Prop :=
  ∀ (p : Program) (loose : List Str) (mean : ExcName → Option Value) (mg mb : Str → Option Value) (S : Ids) (now : Int) (O : Ob) (A : Around) (s : Shared) (base : Heap) (outer : List Env) (lim it tp : Addr) (key : Str) (amount ex cost : Int) (tc : Tok) (σ : St) (c : Nat) (lg : List (Addr × Obj)) (args : Args) (Q : Result → Shared → Prop),
    Sto prog w K p loose mean mg mb A base outer s.heap S now O σ c lg → LimI w base C lim S → ItA prog w K base it tp key amount ex → ex ≤ now → now < 2 ^ 29 → 0 ≤ cost → cost ≤ 60 → c ≤ 79 →
    (∀ fd oc od osl, K.lookup f = some ⟨oc, od, .func fd, osl⟩ → BindsTo s fd args (bs lim it tp cost tc)) → ArOk A 40 →
    (∀ h' tk' v O' lg' g', Aft prog w outer s.heap h' S O' (σ' σ now key amount ex cost) (c + dc) lg lg' g' → R σ now key amount ex cost v h' s.heap → Q (.ok (.ret v)) { s with heap := h', toks := tk' }) →
    codeAny (model prog w) A (.call (.ref f) args) Q s

noncomputable def sClr (σ : St) (k : Str) : St := ⟨era σ.fs k, era σ.fe k, era σ.fv k⟩
noncomputable def sGetS (σ : St) (now : Int) (k : Str) : St := ⟨(sGet σ.fs σ.fe now k).1, (sGet σ.fs σ.fe now k).2.1, σ.fv⟩
noncomputable def sInfoS (σ : St) (now : Int) (pk ck : Str) : St := ⟨(sInfo σ.fs σ.fe now pk ck).1, (sInfo σ.fs σ.fe now pk ck).2, σ.fv⟩
theorem Bd.info {σ : St} {c : Nat} {now : Int} {pk ck : Str} (h : Bd σ c) : Bd (sInfoS σ now pk ck) c := (h.get (now := now) (k := pk)).get (now := now) (k := ck)
noncomputable def hit0S (σ : St) (now : Int) (key : Str) (_amount ex cost : Int) : St := ⟨(sIncr σ.fs σ.fe now key ex cost).1, (sIncr σ.fs σ.fe now key ex cost).2.1, σ.fv⟩
noncomputable def hit0R (σ : St) (now : Int) (key : Str) (amount ex cost : Int) : Bool := decide ((sIncr σ.fs σ.fe now key ex cost).2.2 ≤ amount)
noncomputable def test0R (σ : St) (now : Int) (key : Str) (amount _ex cost : Int) : Bool := decide ((sGet σ.fs σ.fe now key).2.2 < amount - cost + 1)
noncomputable def hit1S (σ : St) (now : Int) (key : Str) (amount ex cost : Int) : St := ⟨σ.fs, σ.fe, (sAcq σ.fv now key amount ex cost).1⟩
noncomputable def hit1R (σ : St) (now : Int) (key : Str) (amount ex cost : Int) : Bool := (sAcq σ.fv now key amount ex cost).2
noncomputable def test1R (σ : St) (now : Int) (key : Str) (amount ex cost : Int) : Bool := decide (((sGmw σ.fv now key ex).2 : Int) ≤ amount - cost)
noncomputable def hit2S (σ : St) (now : Int) (key : Str) (amount ex cost : Int) : St := ⟨(sAcqSw σ.fs σ.fe now (kP key now ex) (kC key now ex) amount ex cost).1, (sAcqSw σ.fs σ.fe now (kP key now ex) (kC key now ex) amount ex cost).2.1, σ.fv⟩
noncomputable def hit2R (σ : St) (now : Int) (key : Str) (amount ex cost : Int) : Bool := (sAcqSw σ.fs σ.fe now (kP key now ex) (kC key now ex) amount ex cost).2.2
noncomputable def test2R (σ : St) (now : Int) (key : Str) (amount ex cost : Int) : Bool := decide (iW σ.fs σ.fe now (kP key now ex) (kC key now ex) ex < amount - cost + 1)
noncomputable def left0 (σ : St) (now : Int) (key : Str) (amount _ex : Int) : Int := max 0 (amount - (sGet σ.fs σ.fe now key).2.2)
noncomputable def reset0 (σ : St) (now : Int) (key : Str) (_amount _ex : Int) : Int := ((sGet σ.fs σ.fe now key).2.1 key).getD now
noncomputable def left1 (σ : St) (now : Int) (key : Str) (amount ex : Int) : Int := amount - ((sGmw σ.fv now key ex).2 : Int)
noncomputable def reset1 (σ : St) (now : Int) (key : Str) (_amount ex : Int) : Int := (sGmw σ.fv now key ex).1 + ex
noncomputable def left2 (σ : St) (now : Int) (key : Str) (amount ex : Int) : Int := max 0 (amount - iW σ.fs σ.fe now (kP key now ex) (kC key now ex) ex)
noncomputable def reset2 (σ : St) (now : Int) (key : Str) (_amount ex : Int) : Int × Int :=
  let pc := iPc σ.fs σ.fe now (kP key now ex)
  let cc := iCc σ.fs σ.fe now (kP key now ex) (kC key now ex)
  let pt := iPt σ.fs σ.fe now (kP key now ex) ex
  let ct := iCt now ex
  if pc = 0 then (if cc = 0 then (now, 1) else (now + ct.fmod ex, 1))
  else (now * pc + (if cc = 0 then (pt * pc).fmod ex else min ((pt * pc).fmod ex) (ct.fmod ex * pc)), pc)
noncomputable def isB (r : Bool) (v : Value) : Prop := v = .bool r
noncomputable abbrev wsO (dx : Addr) (a b : Value) : Obj := { cls := .ref 132, dict := some dx, data := .seq #[a, b] 0 }
noncomputable def WsAt (reset : Int × Int) (two : Bool) (left : Int) (v : Value) (h' h : Heap) : Prop :=
  ∃ x dx a t, v = .ref x ∧ h'.get? x = some (wsO dx a (.int left t)) ∧ h'.get? dx = some emptyDict ∧ h.get? x = none ∧ h.get? dx = none ∧ @Ne Nat x dx ∧
    (if two then ∃ tp u1 u2, a = .ref tp ∧ h'.get? tp = some (tupO [.int reset.1 u1, .int reset.2 u2]) ∧ h.get? tp = none ∧ @Ne Nat tp x ∧ @Ne Nat tp dx else ∃ u, a = .int reset.1 u)

section
variable {σ : St} {now amount ex : Int} {key : Str}
theorem reset2_A (h : iPc σ.fs σ.fe now (kP key now ex) ≠ 0) (h2 : iCc σ.fs σ.fe now (kP key now ex) (kC key now ex) ≠ 0) : reset2 σ now key amount ex =
    (now * iPc σ.fs σ.fe now (kP key now ex) + min ((iPt σ.fs σ.fe now (kP key now ex) ex * iPc σ.fs σ.fe now (kP key now ex)).fmod ex) ((iCt now ex).fmod ex * iPc σ.fs σ.fe now (kP key now ex)), iPc σ.fs σ.fe now (kP key now ex)) := by
  unfold reset2; dsimp only; rw [if_neg h, if_neg h2]
theorem reset2_B (h : iPc σ.fs σ.fe now (kP key now ex) ≠ 0) (h2 : iCc σ.fs σ.fe now (kP key now ex) (kC key now ex) = 0) : reset2 σ now key amount ex =
    (now * iPc σ.fs σ.fe now (kP key now ex) + (iPt σ.fs σ.fe now (kP key now ex) ex * iPc σ.fs σ.fe now (kP key now ex)).fmod ex, iPc σ.fs σ.fe now (kP key now ex)) := by
  unfold reset2; dsimp only; rw [if_neg h, if_pos h2]
theorem reset2_C (h : iPc σ.fs σ.fe now (kP key now ex) = 0) (h2 : iCc σ.fs σ.fe now (kP key now ex) (kC key now ex) ≠ 0) : reset2 σ now key amount ex = (now + (iCt now ex).fmod ex, 1) := by
  unfold reset2; dsimp only; rw [if_pos h, if_neg h2]
theorem reset2_D (h : iPc σ.fs σ.fe now (kP key now ex) = 0) (h2 : iCc σ.fs σ.fe now (kP key now ex) (kC key now ex) = 0) : reset2 σ now key amount ex = (now, 1) := by
  unfold reset2; dsimp only; rw [if_pos h, if_pos h2]
end

section
variable {prog : Program} {w : World} {K : Frag} {C : Addr} {h : Heap} {oc : Value} {od : Option Addr} {cd : ClassData} {sl : Array (Option Value)}
theorem bb_tuple : Builtin.Slots.bestBase [.type "tuple"] = pure (.type "tuple") := by kernel_rfl
structure TupC (K : Frag) (C : Addr) (cd : ClassData) : Prop where
  lk : ∃ oc od sl, K.lookup C = some ⟨oc, od, .cls cd, sl⟩ ∧ (sl.toList[4]?).join = some .none
  m : cd.mro = [.ref C, .type "tuple", .type "object"]
  b : cd.bases = [.type "tuple"]
  d : cd.hasDel = false
  t : typeIn K (.ref C) = some (.type "type")
  c : specialIn K (.ref C) "__call__" = some (some (.builtin "type.__call__"))
  i : findIn K (.ref C) "__init__" = some (some (.builtin "object.__init__"))
theorem TupC.cls (Y : TupC K C cd) : clsIn K C = some cd := by
  obtain ⟨oc, od, sl, e, _⟩ := Y.lk
  unfold clsIn; rw [e]
theorem TupC.mro {M : Model} (Y : TupC K C cd) (X : K.In h) : Looks M h (mroOf (.ref C)) [.ref C, .type "tuple", .type "object"] := by
  rw [← Y.m]
  exact (looks_clsIn X Y.cls).andThen .now
theorem TupC.made {M : Model} (Y : TupC K C cd) (X : K.In h) : Looks M h (Bind.madeBy (.ref C)) none := by
  intro A Q E s k q
  obtain ⟨oc, od, sl, ho, e3⟩ := Y.lk
  unfold Bind.madeBy
  refine wpAny_bind (Y.mro X A _ E s k ?_)
  rw [List.forIn_cons]
  refine wpAny_bind (wpAny_bind (wpAny_bind (wpAny_bind (wpAny_loadPart (k _ _ (X _ _ ho)) (wpAny_pure ?_)))))
  dsimp only
  rw [← Array.getElem?_toList, e3]
  exact wpAny_pure (wpAny_pure (wpAny_pure q))
theorem TupC.base {M : Model} (Y : TupC K C cd) (X : K.In h) : Looks M h (Bind.staticBase (.ref C)) (.type "tuple") := by
  intro A Q E s k q
  unfold Bind.staticBase
  refine wpAny_bind (Y.mro X A _ E s k ?_)
  rw [List.forIn_cons]
  refine wpAny_bind (wpAny_bind (wpAny_bind (Y.made X A _ E s k ?_)))
  rw [if_neg (by decide)]
  refine wpAny_bind (looks_clsIn X Y.cls A _ E s k ?_)
  rw [Y.b, bb_tuple]
  refine wpAny_bind (wpAny_pure (wpAny_pure ?_))
  dsimp only
  rw [List.forIn_cons]
  refine wpAny_bind (wpAny_bind ?_)
  dsimp only
  rw [F.called_tuple.made]
  refine wpAny_pure ?_
  rw [if_pos (by decide)]
  exact wpAny_pure (wpAny_pure (wpAny_pure q))
end
section
variable {prog : Program} {w : World} {A : Around} {K : Frag} {C tp : Addr} {R : Result → Shared → Prop} {h : Heap} {g : Array GenState} {d : Drawn} {t : Nat} {os : OsState} {cd : ClassData} {vs : List Value}
theorem tn_kind : builtinKind "tuple.__new__" = some .builtinFn := by decide +kernel
theorem tn_split : splitId "tuple.__new__" = some ("tuple", "__new__") := by decide +kernel
theorem tn_quiet : "tuple.__new__".startsWith "lifetime." = false := by decide +kernel
theorem TupC.isT {M : Model} (Y : TupC K C cd) (X : K.In h) : Looks M h (isType (.ref C)) true := by
  obtain ⟨oc, od, sl, ho, _⟩ := Y.lk
  have e3 : h.get? C = some ⟨oc, od, .cls cd, sl⟩ := X _ _ ho
  unfold isType
  refine (Looks.ld (part := none) e3).andThen ?_
  exact .now
theorem TupC.sub {M : Model} (Y : TupC K C cd) (X : K.In h) : Looks M h (isSubtype (.ref C) (.type "tuple")) true := by
  refine looks_mroIn X ?_
  unfold mroIn; rw [Y.cls, Option.bind_some, Y.m]
  simp
theorem TupC.subO {M : Model} (Y : TupC K C cd) (X : K.In h) : Looks M h (isSubtype (.ref C) (.type "object")) true := by
  refine looks_mroIn X ?_
  unfold mroIn; rw [Y.cls, Option.bind_some, Y.m]
  simp
theorem TupC.self {M : Model} (Y : TupC K C cd) (X : K.In h) : Looks M h (isSubtype (.ref C) (.ref C)) true := by
  refine looks_mroIn X ?_
  unfold mroIn; rw [Y.cls, Option.bind_some, Y.m]
  simp
theorem TupC.here {M : Model} (Y : TupC K C cd) (X : K.In h) : Looks M h (Bind.madeHere "tuple.__new__" (.ref C)) () :=
  (Y.base X).andThen (Looks.andThen (Looks.of_pure F.called_tuple.made) (Looks.of_pure (by simp only [Option.map_some, bne_self_eq_false, Bool.false_eq_true, if_false])))
theorem tn_check (Y : TupC K C cd) (X : K.In h) : Looks (model prog w) h (checkBuiltinCall "tuple.__new__" ⟨[.ref C, .ref tp], []⟩) () := by
  intro A Q E s k hq
  have args : argsOk "tuple.__new__" ⟨[.ref C, .ref tp], []⟩ := by unfold argsOk; kernel_rfl
  unfold checkBuiltinCall
  rw [tn_kind, tn_split]
  (try dsimp -zeta only)
  extract_lets sig jp0
  rw [beq_self_eq_true, if_pos rfl]
  refine wpAny_bind (Y.isT X A _ E s k ?_)
  (try dsimp -zeta only)
  rw [Bool.not_true, if_neg Bool.false_ne_true]
  refine wpAny_bind (Y.sub X A _ E s k ?_)
  (try dsimp -zeta only)
  rw [Bool.not_true, if_neg Bool.false_ne_true]
  refine wpAny_bind (Y.base X A _ E s k ?_)
  rw [F.called_tuple.made]
  refine wpAny_bind (wpAny_pure ?_)
  (try dsimp -zeta only)
  rw [bne_self_eq_false, if_neg Bool.false_ne_true]
  have e : jp0 () = pure () := args
  rw [e]
  exact wpAny_pure hq
theorem tup_new (Y : TupC K C cd) (X : K.In h) (ht : h.get? tp = some (tupO vs)) (hz : vs.toArray.size ≤ sizeLine)
    (hq : ∀ h' : Heap, (∀ b o, h.get? b = some o → h'.get? b = some o) → R (.ok (.ret (.ref (h'.objs.size + 1)))) ⟨(h'.push emptyDict).push { cls := .ref C, dict := some h'.objs.size, data := .seq vs.toArray 0 }, g, d, t, os⟩) :
    codeAny (model prog w) A (.call (.builtin "tuple.__new__") ⟨[.ref C, .ref tp], []⟩) R ⟨h, g, d, t, os⟩ := by
  refine codeAny_call_builtin_code (Code.quiet_builtin _ tn_quiet) (tn_check Y X _ _ _ _ (fun _ _ e => e) ?_)
  refine codeAny_builtin F.entry_tuple_new ?_
  have hn : (Value.ref C == Value.type "tuple") = false := rfl
  have hno : noKeywords "tuple" ⟨[.ref C, .ref tp], []⟩ = pure () := by kernel_rfl
  unfold Builtin.«tuple.__new__»
  dsimp -zeta only
  extract_lets
  have kp : ∀ b o, h.get? b = some o → h.get? b = some o := fun _ _ e => e
  refine wpAny_bind (Y.isT X _ _ _ _ kp ?_)
  rw [Bool.not_true, if_neg Bool.false_ne_true]
  refine wpAny_bind (Y.sub X _ _ _ _ kp ?_)
  rw [Bool.not_true, if_neg Bool.false_ne_true]
  refine wpAny_bind (Y.here X _ _ _ _ kp ?_)
  refine wpAny_bind (looks_findIn X Y.i _ _ _ _ kp ?_)
  rw [beq_self_eq_true, if_pos rfl, hno]
  refine wpAny_bind (wpAny_pure ?_)
  refine wpAny_bind (wpAny_pure ?_)
  rw [hn, if_neg Bool.false_ne_true]
  refine wpAny_bind (wpAny_collect_seq tp (T := "tuple") (.inr rfl) ht rfl rfl (fun h' kk => ?_) hz)
  refine wpAny_bind (wpAny_pure ?_)
  obtain ⟨oc, od, sl, ho, _⟩ := Y.lk
  have hC : h'.get? C = some ⟨oc, od, .cls cd, sl⟩ := kk _ _ (X _ _ ho)
  refine wpAny_bind (wpAny_alloc ?_)
  refine wpAny_bind ?_
  unfold newObj
  dsimp only
  rw [if_neg (Nat.not_lt.mpr hz)]
  unfold newObjAsIs classHasDel
  refine wpAny_bind (wpAny_alloc (wpAny_bind (wpAny_bind (wpAny_load (Heap.get?_push_of_some _ (Heap.get?_push_of_some _ hC)) (wpAny_pure ?_)))))
  dsimp only
  rw [Y.d]
  refine wpAny_pure (wpAny_pure ?_)
  show R _ _
  rw [Heap.size_push]
  exact hq h' kk
theorem oi3 (a b c : Value) : argsOk "object.__init__" ⟨[a, b, c], []⟩ := by unfold argsOk; kernel_rfl
end
section
variable {prog : Program} {w : World} {A : Around} {E : Value → Shared → Prop} {K : Frag} {C L p f : Addr} {s : Shared} {h₀ : Heap} {m : Str → Option Value} {cd : ClassData} {mc a b : Value} {rest : List Value} {Q : Value → Shared → Prop}
theorem init3 {R : Result → Shared → Prop} {x : Addr} {od : Option Addr} {dt : Data} {sl : Array (Option Value)} {h : Heap} {g : Array GenState} {d : Drawn} {t : Nat} {os : OsState} (Y : TupC K C cd) (X : K.In h) (hx : h.get? x = some ⟨.ref C, od, dt, sl⟩) (hq : R (.ok (.ret .none)) ⟨h, g, d, t, os⟩) :
    codeAny (model prog w) A (.call (.builtin "object.__init__") ⟨[.ref x, a, b], []⟩) R ⟨h, g, d, t, os⟩ := by
  have made := Y.made (M := model prog w) X
  have hi := looks_findIn (M := model prog w) X Y.i
  have t1 : Looks (model prog w) h (typeOf (.ref x)) (.ref C) := (Looks.ld hx).andThen .now
  have t2 : Looks (model prog w) h (isInstance (.ref x) (.type "object")) true := t1.andThen (Y.subO X)
  refine codeAny_call_builtin oi_plain entry_oi (@check_slot (model prog w) _ _ _ "object.__init__" "object" "__init__" (.ref x) [a, b] [] _ oi_kind oi_split t2 (oi3 (.ref x) a b) ?_)
  unfold Builtin.«object.__init__»
  have e1 : (some (Value.builtin "object.__init__") != some (Value.builtin "object.__init__")) = false := rfl
  have e2 : ((none : Option String) != some "object.__new__") = true := rfl
  repeat (first | simp only [List.isEmpty_cons, Bool.not_false, Bool.true_or, if_true, e1, e2, Bool.false_eq_true, if_false, Bool.not_true, Bool.false_or] | lk)
  exact hq
theorem call_own (Y : TupC K C cd) (F : Fr h₀ L s.heap m) (X₀ : K.In h₀) (hm : typeIn K (.ref C) = some mc) (hr : readsIn K C mc = true)
    (e : findCls K (.ref C) mc "__new__" = some (.get (.builtin "staticmethod.__get__") (.ref p) .none (.ref C))) (hp : recIn K p "staticmethod" = some (.ref f :: rest))
    (h : wpAny (model prog w) (A.under (.builtin "type.__call__" ⟨[.ref C, a, b], []⟩)) (call (.ref f) [.ref C, a, b]) (fun v s' => ∃ x od dt sl, v = .ref x ∧ (∀ b o, h₀.get? b = some o → s'.heap.get? b = some o) ∧ s'.heap.get? x = some ⟨.ref C, od, dt, sl⟩ ∧ Q (.ref x) s') E { s with toks := s.toks + 1 }) :
    wpAny (model prog w) A (call (.ref C) [a, b]) Q E s := by
  have X : K.In s.heap := X₀.keeps F.keep
  have made := Y.made (M := model prog w) X
  have call := looks_specialIn (M := model prog w) X Y.c
  have typ : Looks (model prog w) s.heap (isInstance (.ref C) (.type "type")) true := (looks_typeIn X Y.t).andThen (Looks.of_pure (by rw [isSubtype_type]; kernel_rfl))
  obtain ⟨oc, od, sl, ho, _⟩ := Y.lk
  have hC : s.heap.get? C = some ⟨oc, od, .cls cd, sl⟩ := X _ _ ho
  have ga := fun Q' (hQ' : Q' (Value.ref f) { s with toks := s.toks + 1 }) => cls_sm (A := A.under (.builtin "type.__call__" ⟨[.ref C, a, b], []⟩)) (prog := prog) (w := w) (E := E) (expr := false) (Q := Q') F X₀ hm hr e hp rfl hQ'
  obtain ⟨hh, g, d, t, os⟩ := s
  refine wpAny_call (codeAny_of_tree ?_)
  show wpAny _ _ (callAny (.ref C) _) _ _ _
  refine nd_load hC ?_
  show wpAny _ _ (callAny.viaDunder (.ref C) _) _ _ _
  unfold callAny.viaDunder
  refine wpAny_bind (call.at ?_)
  dsimp only
  rw [tc_bind]
  refine wpAny_bind (wpAny_pure (wpAny_bind (wpAny_pure ?_)))
  refine wpAny_pure (a := Fin.again (.call (.builtin "type.__call__") ⟨[.ref C, a, b], []⟩)) (And.intro rfl ?_)
  refine codeAny_call_builtin_at (Code.quiet_builtin _ (by decide +kernel)) entry_typeCall (check_slot tc_kind tc_split typ (tc_args _ _ _) ?_)
  unfold Builtin.«type.__call__»
  have hne : (Value.ref C == Value.type "type") = false := rfl
  have kp : ∀ b o, hh.get? b = some o → hh.get? b = some o := fun _ _ e => e
  dsimp -zeta only
  extract_lets
  rw [hne, if_neg Bool.false_ne_true]
  refine wpAny_bind (Y.mro X _ _ _ _ kp ?_)
  rw [List.isEmpty_cons, if_neg Bool.false_ne_true]
  refine wpAny_bind (made _ _ _ _ kp ?_)
  refine wpAny_bind (ga _ ?_)
  refine wpAny_bind (wpAny_holding (wpAny_mono h ?_ fun _ _ z => z))
  rintro v s' ⟨x, od', dt, sl', rfl, kk, hx, hQ⟩
  have X' : K.In s'.heap := X₀.keeps kk
  have t1 : Looks (model prog w) s'.heap (typeOf (.ref x)) (.ref C) := (Looks.ld hx).andThen .now
  have s1 := Y.self (M := model prog w) X'
  have i1 := looks_findIn (M := model prog w) X' Y.i
  obtain ⟨hh', g', d', t', os'⟩ := s'
  refine wpAny_bind (Looks.at (t1.andThen s1) ?_)
  rw [Bool.not_true, if_neg Bool.false_ne_true]
  refine wpAny_bind (wpAny_holding ?_)
  unfold callSpecial?
  refine wpAny_bind (Looks.at (t1.andThen i1) ?_)
  refine wpAny_holding ?_
  rw [oi_bind]
  refine wpAny_bind (wpAny_pure (wpAny_bind (wpAny_call ?_)))
  refine init3 Y X' hx ?_
  exact wpAny_pure (wpAny_pure hQ)
end
noncomputable def WsC (K : Frag) (prog : Program) (w : World) : Prop :=
  ∀ (p : Program) (loose : List Str) (mg mb : Str → Option Value) (g : Heap) (L : Addr) (m : Str → Option Value) (news : List (Addr × Obj)) (A : Around) (s : Shared) (a b : Value) (Q E : Value → Shared → Prop),
    Fr g L s.heap m → News g L s.heap news → K.In g → TopRead p loose mg mb g → ArOk A 10 →
    (∀ h' tk' x dx, Fr g L h' m → News g L h' ((x, wsO dx a b) :: (dx, emptyDict) :: news) → (∀ q ∈ news, @Ne Nat q.1 x) → (∀ q ∈ news, @Ne Nat q.1 dx) → (@Ne Nat x dx) → (∀ a o, s.heap.get? a = some o → h'.get? a = some o) → s.heap.get? x = none → s.heap.get? dx = none → Q (.ref x) { s with heap := h', toks := tk' }) →
    wpAny (model prog w) A (call (.ref 132) [a, b]) Q E s
theorem tup_new_use {prog : Program} {w : World} {A : Around} {E : Value → Shared → Prop} {K : Frag} {C tp L : Addr} {s : Shared} {g : Heap} {m : Str → Option Value} {news : List (Addr × Obj)} {cd : ClassData} {vs : List Value} {Q : Value → Shared → Prop} (Y : TupC K C cd) (F : Fr g L s.heap m) (N : News g L s.heap news) (X : K.In g) (ht : (tp, tupO vs) ∈ news) (hz : vs.toArray.size ≤ sizeLine)
    (hq : ∀ h' x dx, Fr g L h' m → News g L h' ((x, { cls := .ref C, dict := some dx, data := .seq vs.toArray 0 }) :: (dx, emptyDict) :: news) → (∀ q ∈ news, @Ne Nat q.1 x) → (∀ q ∈ news, @Ne Nat q.1 dx) → (@Ne Nat x dx) → (∀ a o, s.heap.get? a = some o → h'.get? a = some o) → s.heap.get? x = none → s.heap.get? dx = none → Q (.ref x) { s with heap := h' }) :
    wpAny (model prog w) A (call (.builtin "tuple.__new__") [.ref C, .ref tp]) Q E s := by
  have ht' := (N _ ht).1
  obtain ⟨hh, gg, d, t, os⟩ := s
  refine wpAny_call (tup_new Y (X.keeps F.keep) ht' hz fun h' k => ?_)
  have up : ∀ b o, hh.get? b = some o → ((h'.push emptyDict).push { cls := .ref C, dict := some h'.objs.size, data := .seq vs.toArray 0 }).get? b = some o := fun b o e => Heap.get?_push_of_some _ (Heap.get?_push_of_some _ (k b o e))
  have hn : hh.get? (h'.objs.size + 1) = none := by
    cases z : hh.get? (h'.objs.size + 1) with
    | none => rfl
    | some o => exact absurd (Heap.lt_size (k _ _ z)) (Nat.not_lt.mpr (Nat.le_succ _))
  have hn2 : hh.get? h'.objs.size = none := by
    cases z : hh.get? h'.objs.size with
    | none => rfl
    | some o => exact absurd (Heap.lt_size (k _ _ z)) (Nat.lt_irrefl _)
  have e1 : ((h'.push emptyDict).push { cls := .ref C, dict := some h'.objs.size, data := .seq vs.toArray 0 }).get? (h'.objs.size + 1) = some { cls := .ref C, dict := some h'.objs.size, data := .seq vs.toArray 0 } := by heap_get
  have e2 : ((h'.push emptyDict).push { cls := .ref C, dict := some h'.objs.size, data := .seq vs.toArray 0 }).get? h'.objs.size = some emptyDict := Heap.get?_push_of_some _ (Heap.get?_push_at rfl rfl)
  have N1 := fresh_news F (kept_news N up) hn2 e2
  refine hq _ _ h'.objs.size (kept_frame F up) (fun q hq => ?_) (fresh_ne N hn) (fresh_ne N hn2) (Nat.succ_ne_self _) up hn hn2
  rcases List.mem_cons.mp hq with rfl | hq
  · exact fresh_news F (kept_news N up) hn e1 _ (.head _)
  · exact N1 q hq
noncomputable def TgW (K : Frag) (prog : Program) (w : World) (tg : Addr) (sel : Value → Value → Value) : Prop :=
  ∀ (p : Program) (loose : List Str) (mg mb : Str → Option Value) (A : Around) (s : Shared) (x dx : Addr) (a b : Value) (Q E : Value → Shared → Prop), K.In s.heap → TopRead p loose mg mb s.heap → s.heap.get? x = some (wsO dx a b) → ArOk A 6 →
    (∀ h' tk', (∀ b o, s.heap.get? b = some o → h'.get? b = some o) → Q (sel a b) { s with heap := h', toks := tk' }) → wpAny (model prog w) A (call (.ref 43) [.ref tg, .ref x, .ref 132]) Q E s
theorem get_tgW {prog : Program} {w : World} {A : Around} {E : Value → Shared → Prop} {s : Shared} {K : Frag} {L x tg dx : Addr} {g : Heap} {m : Str → Option Value} {name : Str} {news : List (Addr × Obj)} {p : Program} {loose : List Str} {mg mb : Str → Option Value} {cd : ClassData} {a b : Value} {sel : Value → Value → Value} {expr : Bool} {Q : Value → Shared → Prop}
    (C : TgW K prog w tg sel) (F : Fr g L s.heap m) (N : News g L s.heap news) (X : K.In g) (T : TopRead p loose mg mb g) (hx : (x, wsO dx a b) ∈ news) (hdx : (dx, emptyDict) ∈ news)
    (ha : findIn K (.ref 132) name = some (some (.ref tg))) (hga : findIn K (.ref 132) "__getattribute__" = some (some (.builtin "tuple.__getattribute__"))) (hgk : findIn K (.ref 132) "__getattr__" = some none) (h2 : subIn K (.ref 132) (.type "tuple") = some true) (hc : clsIn K 132 = some cd)
    (hn : specialIn K (.ref tg) "__get__" = some (some (.ref 43))) (ht : takesIn K (.ref tg) = some true) (hR : handedIn (sel a b) = true) (hd : ArOk A 7)
    (ret : ∀ h' tk', Fr g L h' m → News g L h' news → Q (sel a b) { s with heap := h', toks := tk' }) : wpAny (model prog w) A (getAttr (.ref x) name expr) Q E s := by
  have XX := X.keeps F.keep
  have I : InstAt s.heap x (wsO dx a b) 132 (some emptyDict) := ⟨(N _ hx).1, rfl, rfl, (N _ hdx).1⟩
  refine get_tup XX I hga hgk h2 (findObj_data (by rw [hc]; rfl) ha hn ht) fun A' d1 d2 d3 => ?_
  refine C p loose mg mb A' { s with toks := s.toks + 1 } x dx a b _ _ XX (T.keeps F.keep) (N _ hx).1 (hd.like d1 d2 d3 (by decide)) fun h' tk' k => ?_
  rw [handedOut_of hR]
  exact wpAny_pure (ret h' tk' (kept_frame F k) (kept_news N k))
theorem max2 {prog : Program} {w : World} {A : Around} {E : Value → Shared → Prop} {s : Shared} {g : Heap} {L : Addr} {m : Str → Option Value} {news : List (Addr × Obj)} {a b : Int} {t u : Tok} {Q : Value → Shared → Prop} (hh : A.handled = none) (F : Fr g L s.heap m) (N : News g L s.heap news)
    (h : ∀ h' tk t', Fr g L h' m → News g L h' news → Q (.int (max a b) t') { s with heap := h', toks := tk }) : wpAny (model prog w) A (call (.builtin "max") [.int a t, .int b u]) Q E s :=
  max_two_ints hh fun h' tk k => by
    by_cases c : b > a
    · rw [if_pos c]; have := h h' tk u (kept_frame F k) (kept_news N k); rwa [show max a b = b by (first | lia | omega)] at this
    · rw [if_neg c]; have := h h' tk t (kept_frame F k) (kept_news N k); rwa [show max a b = a by (first | lia | omega)] at this
theorem min2 {prog : Program} {w : World} {A : Around} {E : Value → Shared → Prop} {s : Shared} {g : Heap} {L : Addr} {m : Str → Option Value} {news : List (Addr × Obj)} {a b : Int} {t u : Tok} {Q : Value → Shared → Prop} (hh : A.handled = none) (F : Fr g L s.heap m) (N : News g L s.heap news)
    (h : ∀ h' tk t', Fr g L h' m → News g L h' news → Q (.int (min a b) t') { s with heap := h', toks := tk }) : wpAny (model prog w) A (call (.builtin "min") [.int a t, .int b u]) Q E s :=
  min_two_ints hh fun h' tk k => by
    by_cases c : b < a
    · rw [if_pos c]; have := h h' tk u (kept_frame F k) (kept_news N k); rwa [show min a b = b by (first | lia | omega)] at this
    · rw [if_neg c]; have := h h' tk t (kept_frame F k) (kept_news N k); rwa [show min a b = a by (first | lia | omega)] at this
section
variable {prog : Program} {w : World} {A : Around} {E : Value → Shared → Prop} {s : Shared} {K : Frag} {g : Heap} {L : Addr} {m : Str → Option Value} {news : List (Addr × Obj)} {p : Program} {loose : List Str} {mg mb : Str → Option Value}
  {g1 : Obj → List (Addr × Obj)} {g2 : Obj → Obj → List (Addr × Obj)} {g3 : Obj → Obj → Obj → List (Addr × Obj)} {S : Ids} {now : Int} {os oe ov : Obj} {fs fe : Str → Option Int} {fv : Str → Option (List (Int × Int))} {c : Nat} {Q : Value → Shared → Prop}
theorem getexp_use {key : Str} {t5 : Tok} (C : GetExpC K prog w) (ok : S.Ok) (F : Fr g L s.heap m) (N : News g L s.heap news) (ms : (S.ds, os) ∈ news) (me : (S.de, oe) ∈ news) (mv : (S.dv, ov) ∈ news)
    (U1 : UpdF S.ds os news g1) (U2 : ∀ x, UpdF S.de oe (g1 x) (g2 x)) (U3 : ∀ x y, UpdF S.dv ov (g2 x y) (g3 x y)) (X : K.In g) (T : TopRead p loose mg mb g) (I : StI prog w g S now)
    (hE : IObj prog w oe fe c) (hc : c ≤ 100000) (hd : ArOk A 10)
    (ret : ∀ h' tk' t, Fr g L h' m → News g L h' (g3 os oe ov) → Q (.int ((fe key).getD now) t) { s with heap := h', toks := tk' }) :
    wpAny (model prog w) A (call (.ref 638) [.ref S.st, .str key t5]) Q E s :=
  C p loose mg mb S now os oe ov A s key t5 fe c Q E (pre_of ok F N ms me mv X T I) hE hc hd fun h' tk' t P => ret h' tk' t (post_frame F N ms me mv P) (post_news N ok U1 U2 U3 P)
theorem getsw_use {key : Str} {expiry : Int} {t1 t2 : Tok} (C : GetSwC K prog w) (ok : S.Ok) (F : Fr g L s.heap m) (N : News g L s.heap news) (ms : (S.ds, os) ∈ news) (me : (S.de, oe) ∈ news) (mv : (S.dv, ov) ∈ news)
    (U1 : UpdF S.ds os news g1) (U2 : ∀ x, UpdF S.de oe (g1 x) (g2 x)) (U3 : ∀ x y, UpdF S.dv ov (g2 x y) (g3 x y)) (X : K.In g) (T : TopRead p loose mg mb g) (I : StI prog w g S now) (hV : ov.cls = .type "dict")
    (hS : IObj prog w os fs c) (hE : IObj prog w oe fe c) (hc : c ≤ 100000) (h0 : 0 < expiry) (h1 : expiry ≤ now) (h2 : now < 2 ^ 30) (hk : key.length ≤ 1000) (hd : ArOk A 20)
    (ret : ∀ h' tk' os' oe' tp u1 u2 u3 u4, Fr g L h' m → News g L h' ((tp, tupO [.int (iPc fs fe now (kP key now expiry)) u1, .int (iPt fs fe now (kP key now expiry) expiry) u2, .int (iCc fs fe now (kP key now expiry) (kC key now expiry)) u3, .int (iCt now expiry) u4]) :: g3 os' oe' ov) → (∀ q ∈ news, @Ne Nat q.1 tp) →
      IObj prog w os' (sInfo fs fe now (kP key now expiry) (kC key now expiry)).1 c → IObj prog w oe' (sInfo fs fe now (kP key now expiry) (kC key now expiry)).2 c → Q (.ref tp) { s with heap := h', toks := tk' }) :
    wpAny (model prog w) A (call (.ref 667) [.ref S.st, .str key t1, .int expiry t2]) Q E s :=
  C p loose mg mb S now os oe ov A s key expiry t1 t2 fs fe c Q E (pre_of ok F N ms me mv X T I) hV hS hE hc h0 h1 h2 hk hd fun h' tk' os' oe' tp u1 u2 u3 u4 P a b hn ho =>
    ret h' tk' os' oe' tp u1 u2 u3 u4 (post_frame F N ms me mv P) (fresh_news F (post_news N ok U1 U2 U3 P) hn ho) (fresh_ne N hn) a b
theorem clearsw_use {key : Str} {expiry : Int} {t1 t2 : Tok} {lg : List (Addr × Obj)} (C : ClearSwC K prog w) (ok : S.Ok) (F : Fr g L s.heap m) (N : News g L s.heap news) (ms : (S.ds, os) ∈ news) (me : (S.de, oe) ∈ news) (mv : (S.dv, ov) ∈ news)
    (U1 : UpdF S.ds os news g1) (U2 : ∀ x, UpdF S.de oe (g1 x) (g2 x)) (U3 : ∀ x y, UpdF S.dv ov (g2 x y) (g3 x y)) (X : K.In g) (T : TopRead p loose mg mb g) (I : StI prog w g S now)
    (hS : IObj prog w os fs c) (hE : IObj prog w oe fe c) (hV : VObj prog w lg ov fv c) (hc : c ≤ 100000) (h0 : 0 < expiry) (h1 : expiry ≤ now) (h2 : now < 2 ^ 30) (hk : key.length ≤ 1000) (hd : ArOk A 20)
    (ret : ∀ h' tk' os' oe' ov', Fr g L h' m → News g L h' (g3 os' oe' ov') → IObj prog w os' (era (era fs (kP key now expiry)) (kC key now expiry)) c → IObj prog w oe' (era (era fe (kP key now expiry)) (kC key now expiry)) c → VObj prog w lg ov' (era (era fv (kP key now expiry)) (kC key now expiry)) c → Q .none { s with heap := h', toks := tk' }) :
    wpAny (model prog w) A (call (.ref 674) [.ref S.st, .str key t1, .int expiry t2]) Q E s :=
  C p loose mg mb S now os oe ov A s key expiry t1 t2 fs fe fv lg c Q E (pre_of ok F N ms me mv X T I) hS hE hV hc h0 h1 h2 hk hd fun h' tk' os' oe' ov' P a b d => ret h' tk' os' oe' ov' (post_frame F N ms me mv P) (post_news N ok U1 U2 U3 P) a b d
theorem acqsw_use {key : Str} {limit expiry amount : Int} {t1 t2 t3 t4 : Tok} (C : AcqSwC K prog w) (ok : S.Ok) (F : Fr g L s.heap m) (N : News g L s.heap news) (ms : (S.ds, os) ∈ news) (me : (S.de, oe) ∈ news) (mv : (S.dv, ov) ∈ news)
    (U1 : UpdF S.ds os news g1) (U2 : ∀ x, UpdF S.de oe (g1 x) (g2 x)) (U3 : ∀ x y, UpdF S.dv ov (g2 x y) (g3 x y)) (X : K.In g) (T : TopRead p loose mg mb g) (I : StI prog w g S now) (hV : ov.cls = .type "dict")
    (hS : IObj prog w os fs c) (hE : IObj prog w oe fe c) (hc : c ≤ 90000) (h0 : 0 < expiry) (h1 : expiry ≤ now) (h2 : now < 2 ^ 30) (hk : key.length ≤ 1000) (hbn : ∀ k i, fs k = some i → 0 ≤ i ∧ i < 2 ^ 30) (hd : ArOk A 20)
    (ret : ∀ h' tk' os' oe', Fr g L h' m → News g L h' (g3 os' oe' ov) → IObj prog w os' (sAcqSw fs fe now (kP key now expiry) (kC key now expiry) limit expiry amount).1 (c + 1) → IObj prog w oe' (sAcqSw fs fe now (kP key now expiry) (kC key now expiry) limit expiry amount).2.1 (c + 1) →
      Q (.bool (sAcqSw fs fe now (kP key now expiry) (kC key now expiry) limit expiry amount).2.2) { s with heap := h', toks := tk' }) :
    wpAny (model prog w) A (call (.ref 653) [.ref S.st, .str key t1, .int limit t2, .int expiry t3, .int amount t4]) Q E s :=
  C p loose mg mb S now os oe ov A s key limit expiry amount t1 t2 t3 t4 fs fe c Q E (pre_of ok F N ms me mv X T I) hV hS hE hc h0 h1 h2 hk hbn hd fun h' tk' os' oe' P a b => ret h' tk' os' oe' (post_frame F N ms me mv P) (post_news N ok U1 U2 U3 P) a b
end
theorem goneM {h h' g : Heap} {L x : Addr} {news : List (Addr × Obj)} {S : Ids} {o : Obj} (hg : hideAll h S.M = g) (N : News g L h' news) (hm : (x, o) ∈ news)
    (n : (@Ne Nat 640 x) ∧ (@Ne Nat 588 x) ∧ (@Ne Nat S.ds x) ∧ (@Ne Nat S.de x) ∧ (@Ne Nat S.dv x)) : h.get? x = none := by
  cases q : h.get? x with
  | none => rfl
  | some y =>
    have hW : x ∉ S.M := fun hx => by
      rcases mem_M hx with e | e | e | e | e
      · exact n.1 e.symm
      · exact n.2.1 e.symm
      · exact n.2.2.1 e.symm
      · exact n.2.2.2.1 e.symm
      · exact n.2.2.2.2 e.symm
    have := hideAll_get S.M q hW
    rw [hg] at this
    rw [(N _ hm).2.2] at this; cases this
noncomputable def WcC (K : Frag) (prog : Program) (w : World) : Prop :=
  ∀ (p : Program) (loose : List Str) (mg mb : Str → Option Value) (g base : Heap) (L : Addr) (m : Str → Option Value) (news : List (Addr × Obj)) (A : Around) (s : Shared) (lim it tp : Addr) (key : Str) (amount ex pc pt cc : Int) (t1 t2 t3 : Tok) (Q E : Value → Shared → Prop),
    Fr g L s.heap m → News g L s.heap news → K.In g → TopRead p loose mg mb g → base.StaysIn g → ItA prog w K base it tp key amount ex → 0 ≤ pc → pc < 2 ^ 30 → 0 ≤ pt → pt < 2 ^ 30 → ArOk A 16 →
    (∀ h' tk' t, Fr g L h' m → News g L h' news → Q (.int ((pc * pt).fdiv ex + cc) t) { s with heap := h', toks := tk' }) → wpAny (model prog w) A (call (.ref 257) [.ref lim, .ref it, .int pc t1, .int pt t2, .int cc t3]) Q E s

section
variable {prog : Program} {w : World} {K : Frag} {p : Program} {loose : List Str} {mean : ExcName → Option Value} {mg mb : Str → Option Value} {A₀ : Around} {base g : Heap} {outer : List Env} {L a : Addr} {m : Str → Option Value} {name : Str} {scope : Scope} {cd : Value}
  {news : List (Addr × Obj)} {S : Ids} {now : Int} {os oe ov ot o5 : Obj} {σ : St} {c : Nat} {lg : List (Addr × Obj)} {s : Shared} {Q E : Value → Shared → Prop} {key : Str} {limit expiry amount : Int} {t1 t2 t3 t4 : Tok}
  {g1 : Obj → List (Addr × Obj)} {g2 : Obj → Obj → List (Addr × Obj)} {g3 : Obj → Obj → Obj → List (Addr × Obj)} {g4 : Obj → Obj → Obj → Obj → List (Addr × Obj)} {g5 : Obj → Obj → Obj → Obj → Obj → List (Addr × Obj)}
theorem five_news {h h' : Heap} {os' oe' ov' ot' o5' : Obj} (N : News g L h news) (U1 : UpdF 640 ot news g1) (U2 : ∀ x, UpdF 588 o5 (g1 x) (g2 x)) (U3 : ∀ x y, UpdF S.ds os (g2 x y) (g3 x y)) (U4 : ∀ x y z, UpdF S.de oe (g3 x y z) (g4 x y z)) (U5 : ∀ x y z u, UpdF S.dv ov (g4 x y z u) (g5 x y z u))
    (mt : (640, ot) ∈ news) (m5 : (588, o5) ∈ news) (ms : (S.ds, os) ∈ news) (me : (S.de, oe) ∈ news) (mv : (S.dv, ov) ∈ news)
    (k : ∀ b o, b ∉ S.M → h.get? b = some o → h'.get? b = some o) (e1 : h'.get? 640 = some ot') (e2 : h'.get? 588 = some o5') (e3 : h'.get? S.ds = some os') (e4 : h'.get? S.de = some oe') (e5 : h'.get? S.dv = some ov') : News g L h' (g5 ot' o5' os' oe' ov') := by
  have nw : ∀ q ∈ five S ⟨os', oe', ov', ot', o5'⟩, h'.get? q.1 = some q.2 ∧ q.1 ≠ L ∧ g.get? q.1 = none := by
    exact List.forall_mem_cons.mpr ⟨⟨e1, (N _ mt).2⟩, List.forall_mem_cons.mpr ⟨⟨e2, (N _ m5).2⟩, List.forall_mem_cons.mpr ⟨⟨e3, (N _ ms).2⟩, List.forall_mem_cons.mpr ⟨⟨e4, (N _ me).2⟩, List.forall_mem_cons.mpr ⟨⟨e5, (N _ mv).2⟩, fun _ h => nomatch h⟩⟩⟩⟩⟩
  have s1 := upd_step (o' := ot') (nw := five S ⟨os', oe', ov', ot', o5'⟩) (news := news) (done := []) U1 (fun q hq => .inr ⟨hq, List.not_mem_nil⟩) (by k_mem)
  have s2 := upd_step (o' := o5') (U2 ot') s1 (by k_mem)
  have s3 := upd_step (o' := os') (U3 ot' o5') s2 (by k_mem)
  have s4 := upd_step (o' := oe') (U4 ot' o5' os') s3 (by k_mem)
  have s5 := upd_step (o' := ov') (U5 ot' o5' os' oe') s4 (by k_mem)
  intro q hq
  rcases s5 q hq with hq | ⟨hq, hd⟩
  · exact nw q hq
  · exact ⟨k _ _ (fun hm => hd (by rcases mem_M hm with e | e | e | e | e <;> rw [e] <;> simp)) (N q hq).1, (N q hq).2⟩
theorem fr_five {h h' : Heap} (F : Fr g L h m) (hn : ∀ a ∈ S.M, a ≠ L ∧ g.get? a = none) (k : ∀ b o, b ∉ S.M → h.get? b = some o → h'.get? b = some o) : Fr g L h' m := by
  obtain ⟨oL, es, ep, hL, r⟩ := F.ns
  exact ⟨⟨oL, es, ep, k _ _ (fun hm => (hn _ hm).1 rfl) hL, r⟩, fun b o e => k b o (fun hm => by rw [(hn b hm).2] at e; cases e) (F.keep b o e), F.above⟩
theorem W_sub {b : Addr} (h : b ∉ S.M) : b ∉ S.W := fun hm => h (List.mem_cons_of_mem _ (List.mem_cons_of_mem _ hm))
theorem acq_use (C : AcqC K prog w) (Z : SB prog w K p loose mean mg mb base S now lg) (KB : Below A₀ base outer g) (F : Fr g L s.heap m) (N : News g L s.heap news) (mt : (640, ot) ∈ news) (m5 : (588, o5) ∈ news) (ms : (S.ds, os) ∈ news) (me : (S.de, oe) ∈ news) (mv : (S.dv, ov) ∈ news)
    (U1 : UpdF 640 ot news g1) (U2 : ∀ x, UpdF 588 o5 (g1 x) (g2 x)) (U3 : ∀ x y, UpdF S.ds os (g2 x y) (g3 x y)) (U4 : ∀ x y z, UpdF S.de oe (g3 x y z) (g4 x y z)) (U5 : ∀ x y z u, UpdF S.dv ov (g4 x y z u) (g5 x y z u))
    (D : Dat prog w lg ⟨os, oe, ov, ot, o5⟩ σ c) (hc : c ≤ 79) (h0 : 0 ≤ amount) (h1 : amount ≤ 60) (h2 : limit ≤ 1000) (h3 : 0 < expiry) (h4 : expiry ≤ 1000) (h5 : now < 2 ^ 29) (hd : ArOk (A₀.deeper (envOf name scope L a cd)) 20)
    (ret : ∀ h' tk' ov' lg' g₂, KtsTurn (outer.filterMap (·.frame)) g g₂ → Fr g₂ L h' m → News g₂ L h' (g5 ot o5 os oe ov' ++ lg') → Below A₀ base outer g₂ → K.In g₂ → TopRead p loose mg mb g₂ → (∀ q ∈ lg', q.1 ∉ S.M) → Dat prog w (lg' ++ lg) ⟨os, oe, ov', ot, o5⟩ (hit1S σ now key limit expiry amount) (c + 1) →
      Q (.bool (sAcq σ.fv now key limit expiry amount).2) { s with heap := h', toks := tk' }) (hk : scope.kind = .function := by rfl) :
    wpAny (model prog w) (A₀.deeper (envOf name scope L a cd)) (call (.ref 631) [.ref S.st, .str key t1, .int limit t2, .int expiry t3] [("amount", .int amount t4)]) Q E s := by
  have hn := M_none (O := ⟨os, oe, ov, ot, o5⟩) N mt m5 ms me mv
  have FW : Fr g L (hideAll s.heap S.W) m := by
    obtain ⟨oL, es, ep, hL, r⟩ := F.ns
    exact ⟨⟨oL, es, ep, hideAll_get _ hL (fun hm => (hn _ (List.mem_cons_of_mem _ (List.mem_cons_of_mem _ hm))).1 rfl), r⟩, hidden F.keep (fun b hb => (hn b (List.mem_cons_of_mem _ (List.mem_cons_of_mem _ hb))).2), F.above⟩
  have XB := Z.X
  have hnn : 0 ≤ now := Z.I.bnd.1
  have hb := D.b
  refine C p loose mg mb S now os oe ov (A₀.deeper (envOf name scope L a cd)) s base (envOf name scope L a cd :: outer) key limit expiry amount t1 t2 t3 t4 σ.fv lg c Q E
    (pre_of Z.ok F N ms me mv (XB.keeps KB.stays) ((topRead_of Z.T).keeps KB.stays) (Z.I.keeps KB.stays)) ⟨KB.push FW hk, XB, topRead_of Z.T, Z.I⟩ D.s.cls D.e.cls D.v Z.lgb (by (first | lia | omega)) h0 (by (first | lia | omega)) h2 h3 (by (first | lia | omega)) (by (first | lia | omega)) (fun es e => by have := hb.bv key es e; (first | lia | omega)) hd ?_
  intro h' tk' g' ov' lg' T k hs he hv hl hV
  have kf : ∀ b o, b ∉ S.M → s.heap.get? b = some o → b ∉ (envOf name scope L a cd :: outer).filterMap (·.frame) → h'.get? b = some o := fun b o hM e hf => k _ _ (T.other _ _ (hideAll_get _ e (W_sub hM)) hf)
  have tab : ∀ b o, b = 640 ∨ b = 588 → (b, o) ∈ news → h'.get? b = some o := fun b o hb hm => by
    have hW : b ∉ S.W := fun hW => by
      simp only [Ids.W, List.mem_cons, List.not_mem_nil, or_false] at hW
      have q1 := Z.o5.a; have q2 := Z.o5.b
      rcases hb with rfl | rfl
      · rcases hW with e | e | e
        · exact q1.1 e
        · exact q1.2.1 e
        · exact q1.2.2 e
      · rcases hW with e | e | e
        · exact q2.1 e
        · exact q2.2.1 e
        · exact q2.2.2 e
    refine k _ _ (T.other _ _ (hideAll_get _ (N _ hm).1 hW) fun hf => ?_)
    rcases kts_mem hf with e | hf
    · exact (N _ hm).2.1 e
    · obtain ⟨_, o', ho', _⟩ := KB.frames.mem hf
      rw [(N _ hm).2.2] at ho'; cases ho'
  have T' : KtsTurn ((envOf name scope L a cd :: outer).filterMap (·.frame)) (hideAll s.heap S.M) (hideAll g' [640, 588]) := by
    have hMW : ∀ b o, (hideAll s.heap S.M).get? b = some o → b ≠ 640 ∧ b ≠ 588 ∧ (hideAll s.heap S.W).get? b = some o := fun b o e => by
      have hM : b ∉ S.M := fun hm => by rw [hideAll_none _ hm] at e; cases e
      refine ⟨fun z => hM (by rw [z]; simp), fun z => hM (by rw [z]; simp), hideAll_get _ (of_hideAll _ e) (W_sub hM)⟩
    refine ⟨by rw [hideAll_size, hideAll_size, T.size, hideAll_size], fun b e => ?_, fun b o e hf => ?_, fun b o e hf => ?_⟩
    · by_cases hb : b ∈ [640, 588]
      · exact hideAll_none _ hb
      · cases z : (hideAll g' [640, 588]).get? b with
        | none => rfl
        | some o =>
          have z1 := of_hideAll _ z
          have z2 : (hideAll s.heap S.W).get? b = none := by
            cases y : (hideAll s.heap S.W).get? b with
            | none => rfl
            | some o' =>
              have hM : b ∉ S.M := fun hm => by
                rcases mem_M hm with r | r | r | r | r
                · exact hb (by rw [r]; simp)
                · exact hb (by rw [r]; simp)
                · rw [hideAll_none S.W (by rw [r]; simp [Ids.W])] at y; cases y
                · rw [hideAll_none S.W (by rw [r]; simp [Ids.W])] at y; cases y
                · rw [hideAll_none S.W (by rw [r]; simp [Ids.W])] at y; cases y
              rw [hideAll_get S.M (of_hideAll _ y) hM] at e; cases e
          rw [T.none_ _ z2] at z1; cases z1
    · obtain ⟨n1, n2, e'⟩ := hMW b o e
      exact hideAll_get _ (T.other _ _ e' hf) (by simp [n1, n2])
    · obtain ⟨n1, n2, e'⟩ := hMW b o e
      obtain ⟨sl, hs⟩ := T.frame _ _ e' hf
      exact ⟨sl, hideAll_get _ hs (by simp [n1, n2])⟩
  have P : Aft prog w (envOf name scope L a cd :: outer) s.heap h' S ⟨os, oe, ov', ot, o5⟩ (hit1S σ now key limit expiry amount) (c + 1) lg lg' (hideAll g' [640, 588]) :=
    ⟨T', fun b o e => k b o (of_hideAll _ e), hs, he, hv, tab 640 ot (.inl rfl) mt, tab 588 o5 (.inr rfl) m5, hl,
      ⟨D.s.le (Nat.le_succ _), D.e.le (Nat.le_succ _), hV, D.t.more fun q hq => List.mem_append_right _ hq, D.t5.more fun q hq => List.mem_append_right _ hq, D.b.acq hnn (by (first | lia | omega)) (by (first | lia | omega)), by (first | lia | omega)⟩⟩
  exact aft_use (O := ⟨os, oe, ov, ot, o5⟩) KB XB Z.T F N mt m5 ms me mv U1 U2 U3 U4 U5 P fun g₂ T₂ F₂ N₂ B₂ X₂ P₂ l₂ => ret h' tk' ov' lg' g₂ T₂ F₂ N₂ B₂ X₂ P₂ l₂ P.D
theorem gmw_use (C : GmwC K prog w gmwPos) (Z : SB prog w K p loose mean mg mb base S now lg) (Bg : base.StaysIn g) (F : Fr g L s.heap m) (N : News g L s.heap news) (mt : (640, ot) ∈ news) (m5 : (588, o5) ∈ news) (ms : (S.ds, os) ∈ news) (me : (S.de, oe) ∈ news) (mv : (S.dv, ov) ∈ news)
    (U1 : UpdF 640 ot news g1) (U2 : ∀ x, UpdF 588 o5 (g1 x) (g2 x)) (U3 : ∀ x y, UpdF S.ds os (g2 x y) (g3 x y)) (U4 : ∀ x y z, UpdF S.de oe (g3 x y z) (g4 x y z)) (U5 : ∀ x y z u, UpdF S.dv ov (g4 x y z u) (g5 x y z u))
    (D : Dat prog w lg ⟨os, oe, ov, ot, o5⟩ σ c) {A : Around} (h3 : 0 ≤ expiry) (h4 : expiry ≤ 1000) (h5 : now < 2 ^ 29) (hd : ArOk A 25)
    (ret : ∀ h' tk' ot' lg' tp u1 u2, Fr g L h' m → News g L h' ((tp, tupO [.int (sGmw σ.fv now key expiry).1 u1, .int ((sGmw σ.fv now key expiry).2 : Nat) u2]) :: (g5 ot' o5 os oe ov ++ lg')) → (∀ q ∈ news, @Ne Nat q.1 tp) → (∀ q ∈ lg', q.1 ∉ S.M) → Dat prog w (lg' ++ lg) ⟨os, oe, ov, ot', o5⟩ σ c →
      Q (.ref tp) { s with heap := h', toks := tk' }) :
    wpAny (model prog w) A (call (.ref 645) [.ref S.st, .str key t1, .int limit t2, .int expiry t3]) Q E s := by
  have hn := M_none (O := ⟨os, oe, ov, ot, o5⟩) N mt m5 ms me mv
  have kW : ∀ b o, g.get? b = some o → (hideAll s.heap (640 :: S.W)).get? b = some o := hidden F.keep fun b hb => by
    rcases List.mem_cons.mp hb with rfl | hb
    · exact (hn _ (by simp)).2
    · exact (hn b (List.mem_cons_of_mem _ (List.mem_cons_of_mem _ hb))).2
  have kB : ∀ b o, base.get? b = some o → (hideAll s.heap (640 :: S.W)).get? b = some o := fun b o e => kW b o (Bg b o e)
  have hb := D.b
  refine C p loose mean mg mb S now os oe ov ot A s key limit expiry t1 t2 t3 σ.fv lg c Q E Z.ok Z.o5.a (Z.X.keeps kB) (Z.T.keeps kB) (Z.I.keeps kB) (Z.C1.keeps kB) (N _ ms).1 (N _ me).1 (N _ mv).1 (N _ mt).1 D.s.cls D.e.cls D.v.cls
    (D.t.tab fun q hq => kB _ _ (Z.lgb q hq)) D.v (fun q hq => kB _ _ (Z.lgb q hq)) (by have := D.hc; (first | lia | omega)) (fun es e => by have := hb.bv key es e; have := D.hc; (first | lia | omega)) h3 (by (first | lia | omega)) (by (first | lia | omega)) hd ?_
  intro h' tk' ot' tp u1 u2 k hs he hv ht hor htn htp
  have q2 := Z.o5.b
  have k' : ∀ b o, b ∉ S.M → s.heap.get? b = some o → h'.get? b = some o := fun b o hM e => k b o (hideAll_get _ e fun hm => hM (by
    rcases List.mem_cons.mp hm with rfl | hm
    · simp
    · exact List.mem_cons_of_mem _ (List.mem_cons_of_mem _ hm)))
  have h588 : h'.get? 588 = some o5 := k _ _ (hideAll_get _ (N _ m5).1 fun hm => by
    simp only [Ids.W, List.mem_cons, List.not_mem_nil, or_false] at hm
    rcases hm with e | e | e | e
    · exact absurd e (by decide)
    · exact q2.1 e
    · exact q2.2.1 e
    · exact q2.2.2 e)
  have F' := fr_five F hn k'
  have N' := five_news N U1 U2 U3 U4 U5 mt m5 ms me mv k' ht h588 hs he hv
  have lM : ∀ {x : Addr}, s.heap.get? x = none → x ∉ S.M := fun {x} hno hm => by
    rcases mem_M hm with e | e | e | e | e
    · rw [e, (N _ mt).1] at hno; cases hno
    · rw [e, (N _ m5).1] at hno; cases hno
    · rw [e, (N _ ms).1] at hno; cases hno
    · rw [e, (N _ me).1] at hno; cases hno
    · rw [e, (N _ mv).1] at hno; cases hno
  have nnew : ∀ {x o}, s.heap.get? x = none → h'.get? x = some o → h'.get? x = some o ∧ x ≠ L ∧ g.get? x = none := by
    intro x o e1 e2
    refine ⟨e2, fun e => ?_, ?_⟩
    · obtain ⟨oL, _, _, hL, _⟩ := F.ns
      rw [← e, e1] at hL; cases hL
    · cases z : g.get? x with
      | none => rfl
      | some o => have := F.keep _ _ z; rw [e1] at this; cases this
  rcases hor with rfl | ⟨c', oc, vs, t, rfl, c1, c2, c3, c4⟩
  · refine ret h' tk' ot' [] tp u1 u2 F' (fun q hq => ?_) (fresh_ne N htn) (fun _ h => nomatch h) D
    rcases List.mem_cons.mp hq with rfl | hq
    · exact nnew htn htp
    · rw [List.append_nil] at hq; exact N' q hq
  · refine ret h' tk' (tabObj #[rawInt gmwPos.line, rawInt gmwPos.col, .ref c']) [(c', oc)] tp u1 u2 F' (fun q hq => ?_) (fresh_ne N htn) (fun q hq => ?_) ⟨D.s, D.e, D.v.more fun q hq => List.mem_append_right _ hq, .inr ⟨c', oc, vs, t, rfl, by simp, c3, c4⟩, D.t5.more fun q hq => List.mem_append_right _ hq, D.b, D.hc⟩
    · rcases List.mem_cons.mp hq with rfl | hq
      · exact nnew htn htp
      · rcases List.mem_append.mp hq with hq | hq
        · exact N' q hq
        · rw [List.mem_singleton.mp hq]; exact nnew c1 c2
    · rw [List.mem_singleton.mp hq]; exact lM c1
end

section
variable {prog : Program} {w : World} {A : Around} {E : Value → Shared → Prop} {s : Shared} {env : Env} {h₀ : Heap} {x : Str} {body : List Stmt} {Q : Flow → Shared → Prop}
noncomputable def TurnEnd (h₀ : Heap) (L I : Addr) (oI : Obj) (J : (Str → Option Value) → List (Addr × Obj) → Prop) (s₁ s₂ : Shared) : Prop :=
  ∃ h' tk m' news', s₂ = { s₁ with heap := h', toks := tk } ∧ Fr h₀ L h' m' ∧ News h₀ L h' ((I, oI) :: news') ∧ (∀ p ∈ news', @Ne Nat p.1 I) ∧ J m' news'
noncomputable def TurnPost (h₀ : Heap) (L I : Addr) (oI : Obj) (J : (Str → Option Value) → List (Addr × Obj) → Prop) (s₁ : Shared) (Q : Flow → Shared → Prop) (f : Flow) (s₂ : Shared) : Prop :=
  match f with
  | .ret v => Q (.ret v) s₂
  | .brk => Q .next s₂
  | _ => TurnEnd h₀ L I oI J s₁ s₂
theorem ex9 {α₁ α₂ α₃ α₄ α₅ α₆ α₇ α₈ α₉ : Sort _} {P : α₁ → α₂ → α₃ → α₄ → α₅ → α₆ → α₇ → α₈ → α₉ → Prop} (a₁ : α₁) (a₂ : α₂) (a₃ : α₃) (a₄ : α₄) (a₅ : α₅) (a₆ : α₆) (a₇ : α₇) (a₈ : α₈) (a₉ : α₉) (h : P a₁ a₂ a₃ a₄ a₅ a₆ a₇ a₈ a₉) : ∃ b₁ b₂ b₃ b₄ b₅ b₆ b₇ b₈ b₉, P b₁ b₂ b₃ b₄ b₅ b₆ b₇ b₈ b₉ := ⟨_, _, _, _, _, _, _, _, _, h⟩
theorem for_own {l : Addr} {vs : List Value} {c : Nat} {m₀ : Str → Option Value} {news : List (Addr × Obj)} (J : Nat → (Str → Option Value) → List (Addr × Obj) → Prop)
    (hh : A.handled = none) (F : Fr h₀ env.locals s.heap m₀) (N : News h₀ env.locals s.heap news) (hJl : ∀ i m n, J i m n → (l, listOf vs.toArray c) ∈ n) (hj : J 0 m₀ news)
    (turn : ∀ i v m₁ news₁ h tk I oI, vs[i]? = some v → J i m₁ news₁ → (∀ p ∈ news₁, @Ne Nat p.1 I) → Fr h₀ env.locals h (fun y => if y = x then some v else m₁ y) → News h₀ env.locals h ((I, oI) :: news₁) →
      wpAny (model prog w) A (execs body env) (TurnPost h₀ env.locals I oI (J (i + 1)) { s with heap := h, toks := tk } Q) E { s with heap := h, toks := tk })
    (done : ∀ m₁ news₁ h tk, J vs.length m₁ news₁ → Fr h₀ env.locals h m₁ → News h₀ env.locals h news₁ → Q .next { s with heap := h, toks := tk }) :
    wpAny (model prog w) A (pyIter (.ref l)) (fun it s₂ => LoopAtV prog w A h₀ env x body Q E it s₂) E s := by
  have hm := hJl 0 m₀ news hj
  have hlo := (N _ hm).1
  have hls : s.heap.IsList l vs.toArray := ⟨_, hlo, rfl, c, rfl⟩
  have hlt : l < s.heap.objs.size := Heap.lt_size hlo
  have hne : l ≠ s.heap.objs.size := Nat.ne_of_lt hlt
  have hnl := N _ hm
  refine wpAny_pyIter_list hls ?_
  have W := Walks.list (prog := prog) (w := w) hh s.heap.objs.size l hne vs.toArray
  have hsz : vs.toArray.size = vs.length := by simp
  rw [hsz] at W
  refine ex9 _ _ _ vs.length _ _ m₀ news J ⟨rfl, W, ?_, ?_, ?_, ⟨⟨_, Heap.get?_push_size _ rfl, rfl, rfl⟩, hls.at fun o e => Heap.get?_push_of_some _ e⟩, F.push _, (fun p hp => ⟨Heap.get?_push_of_some _ (N p hp).1, (N p hp).2⟩), hj, ?_, ?_⟩
  · intro hm'
    rcases List.mem_cons.mp hm' with e | hm'
    · exact absurd F.ns.lt (e ▸ Nat.lt_irrefl _)
    · exact hnl.2.1 (List.mem_singleton.mp hm').symm
  · intro b hb
    rw [List.mem_singleton.mp hb]
    exact next_is_new F
  · intro p hp hI
    exact absurd (Heap.lt_size (N p hp).1) ((List.mem_singleton.mp hI) ▸ Nat.lt_irrefl _)
  · rintro i v m₁ news₁ s₁ own ⟨hh', tk', rfl⟩ hin hP hJ hoff hown hget hall hst F₁ N₁
    have hI : ∃ oI, hh'.get? s.heap.objs.size = some oI := by obtain ⟨o, e, _⟩ := hst.1; exact ⟨o, e⟩
    obtain ⟨oI, hoI⟩ := hI
    have hIown : (s.heap.objs.size, oI) ∈ own := hall _ (.head _) (next_is_new F) oI hoI
    have hoff' : ∀ p ∈ news₁, @Ne Nat p.1 s.heap.objs.size := fun p hp e => hoff p hp (by rw [show p.1 = s.heap.objs.size from e]; exact .head _)
    have N₂ : News h₀ env.locals hh' ((s.heap.objs.size, oI) :: news₁) := fun q hq => by
      rcases List.mem_cons.mp hq with rfl | hq
      · exact N₁ _ (List.mem_append_left _ hIown)
      · exact N₁ _ (List.mem_append_right _ hq)
    have hP' : vs[i]? = some v := by simpa using hP
    refine wpAny_mono (turn i v m₁ news₁ hh' tk' _ oI hP' hJ hoff' F₁ N₂) (fun f s₂ p => ?_) fun _ _ e => e
    have fin : TurnEnd h₀ env.locals s.heap.objs.size oI (J (i + 1)) { s with heap := hh', toks := tk' } s₂ → LoopStepU h₀ env.locals [s.heap.objs.size] own (J (i + 1)) { s with heap := hh', toks := tk' } .next s₂ := by
      rintro ⟨h', tk, m', news', e, F', N', hoff₂, hm₂⟩
      refine ⟨rfl, h', tk, m', news', e, F', fun q hq => ?_, fun p hp hb => hoff₂ p hp (List.mem_singleton.mp hb), hm₂⟩
      rcases List.mem_append.mp hq with hq | hq
      · rcases List.mem_cons.mp (hown q hq) with e1 | e1
        · have e2 : q = (s.heap.objs.size, oI) := by
            have := hget q hq
            rw [e1] at this
            obtain ⟨qa, qo⟩ := q
            have e1' : qa = s.heap.objs.size := e1
            subst e1'
            rw [show hh'.get? s.heap.objs.size = some oI from hoI] at this; cases this; rfl
          rw [e2]; exact N' _ (.head _)
        · have e1' := List.mem_singleton.mp e1
          have hl' := hJl _ _ _ hJ
          have e2 : q = (l, listOf vs.toArray c) := by
            have h3 := hget q hq
            obtain ⟨qa, qo⟩ := q
            have e1'' : qa = l := e1'
            subst e1''
            have h4 := (N₁ _ (List.mem_append_right own hl')).1
            have h5 : some qo = some (listOf vs.toArray c) := h3.symm.trans h4
            cases h5; rfl
          rw [e2]; exact N' _ (.tail _ (hJl _ _ _ hm₂))
      · exact N' _ (.tail _ hq)
    cases f with
    | ret v => exact .ret p
    | brk => exact .brk p
    | next => exact .next (fin p)
    | cont => exact .cont (fin p)
  · rintro h' tk m' news' F' N' _ hJ
    exact done m' news' h' tk hJ F' N'
end
theorem pick_upto (vs : List Value) (r : Nat) (h : r ≤ vs.length) : kms_pick vs none (some (r : Int)) = vs.take r := by
  unfold kms_pick kms_lo kms_hi
  dsimp only
  rw [if_neg (by (first | lia | omega)), List.drop_zero]
  congr 1
  (first | lia | omega)
theorem slice_upto {prog : Program} {w : World} {A : Around} {E : Value → Shared → Prop} {s : Shared} {h₀ : Heap} {L l : Addr} {m : Str → Option Value} {news : List (Addr × Obj)} {value slice : PySem.Expr} {vs : List Value} {n r : Nat} {t : Tok} {Q : Value → Shared → Prop}
    (F : Fr h₀ L s.heap m) (N : News h₀ L s.heap news) (hl : s.heap.get? l = some (lstO vs n)) (hr : r ≤ vs.length) (hz : vs.length ≤ 90000)
    (h : ∀ D h', Fr h₀ L h' m → News h₀ L h' ((D, listOf (vs.take r).toArray 0) :: news) → (∀ p ∈ news, p.1 < D) → Q (.ref D) { s with heap := h' })
    (hs : subscripted slice false (.ref l) (.ref s.heap.objs.size) = operate [.ref s.heap.objs.size, .ref l] (getItem (.ref l) (.ref s.heap.objs.size))) (ht : ∀ r, letTemporaryGo value (.ref l) r = pure ()) :
    wpAny (model prog w) A (subscriptTail value slice (.ref l) (.ref s.heap.objs.size)) Q E { s with heap := s.heap.push { cls := .type "slice", data := .fields #[.none, .int (r : Int) t, .none] } } :=
  kms_slice_lit F N (lst_at hl) IsPart.none (IsPart.int _ _) (pick_upto vs r hr) h hs ht (by rw [List.size_toArray, sizeLine_eq]; (first | lia | omega))
noncomputable def swp1 (now : Int) (es : List (Int × Int)) : List (Int × Int) := if es.length = 0 then es else es.take (bis (fun i => decide ((es.map fun q => -q.2).getD i 0 < -now)) es.length 0 es.length)
noncomputable def sSweep (σ : St) (now : Int) : St :=
  ⟨fun k => match σ.fe k with | some x => if x ≤ now then none else σ.fs k | none => σ.fs k, fun k => match σ.fe k with | some x => if x ≤ now then none else some x | none => none, fun k => (σ.fv k).map (swp1 now)⟩
noncomputable def swpV (fv : Str → Option (List (Int × Int))) (now : Int) (done : List Str) : Str → Option (List (Int × Int)) := fun k => if k ∈ done then (fv k).map (swp1 now) else fv k
noncomputable def swpS (fs fe : Str → Option Int) (now : Int) (done : List Str) : Str → Option Int := fun k => if k ∈ done then (match fe k with | some x => if x ≤ now then none else fs k | none => fs k) else fs k
noncomputable def swpE (fe : Str → Option Int) (now : Int) (done : List Str) : Str → Option Int := fun k => if k ∈ done then (match fe k with | some x => if x ≤ now then none else some x | none => none) else fe k
structure KeysL (vs : List Value) (kvs : List (Str × Value)) : Prop where
  len : vs.length = kvs.length
  at_ : ∀ (j : Nat) (v : Value), vs[j]? = some v → ∃ k x t, kvs[j]? = some (k, x) ∧ v = .str k t
section
variable {prog : Program} {w : World} {A : Around} {E : Value → Shared → Prop} {s : Shared} {h₀ : Heap} {L d v : Addr} {m : Str → Option Value} {news : List (Addr × Obj)} {o : Obj} {kvs : List (Str × Value)}
theorem list_view {Q : Value → Shared → Prop} (hh : A.handled = none) (F : Fr h₀ L s.heap m) (N : News h₀ L s.heap news) (hv : (v, { cls := .type "dict_keys", data := .fields #[.ref d] }) ∈ news) (hp : (d, o) ∈ news) (hd : o.IsDictOf (strKind prog w) kvs) (hn : kvs.length ≤ 100000)
    (h : ∀ (D : Addr) c h' tk vs, Fr h₀ L h' m → News h₀ L h' ((D, listOf vs.toArray c) :: news) → (∀ q ∈ news, q.1 < D) → KeysL vs kvs → Q (.ref D) { s with heap := h', toks := tk }) :
    wpAny (model prog w) A (call (.type "list") [.ref v]) Q E s := by
  obtain ⟨ep, hat⟩ := (kda_dict N hp hd).dictAt
  refine kdl_N (kdl_keys (knd := strKind prog w) (kvs := kvs) (ep := ep)) hh F N ⟨⟨_, (N _ hv).1, rfl, rfl⟩, hat⟩ (kdl_size (by (first | lia | omega))) fun B c h' tk vs F' N' l1 hl hv' => ?_
  refine h B c h' tk vs F' N' l1 ⟨hl, fun j u hu => ?_⟩
  obtain ⟨k, x, hx, hk⟩ := hv' j u hu
  obtain ⟨t, rfl⟩ := Value.isStrOf_shape hk
  exact ⟨k, x, t, hx, rfl⟩
end
theorem ncons {g h : Heap} {L : Addr} {q : Addr × Obj} {r : List (Addr × Obj)} (a : h.get? q.1 = some q.2 ∧ q.1 ≠ L ∧ g.get? q.1 = none) (N : News g L h r) : News g L h (q :: r) := fun p hp => by
  rcases List.mem_cons.mp hp with rfl | hp
  · exact a
  · exact N p hp
theorem EntsAt.take {w lg vs es} (h : EntsAt w lg vs es) : ∀ r, EntsAt w lg (vs.take r) (es.take r) := by
  induction h with
  | nil => intro r; rw [List.take_nil, List.take_nil]; exact .nil
  | cons a _ ih =>
    intro r
    cases r with
    | zero => exact .nil
    | succ r => exact .cons a (ih r)
theorem swpV_put {fv : Str → Option (List (Int × Int))} {now : Int} {done : List Str} {k : Str} {es : List (Int × Int)} (h : fv k = some es) : swpV fv now (done ++ [k]) = upd (swpV fv now done) k (swp1 now es) := by
  funext x
  unfold swpV upd
  by_cases e : x = k
  · subst e; rw [if_pos (by simp), if_pos rfl, h]; rfl
  · rw [if_neg e]
    dsimp only
    by_cases d : x ∈ done
    · rw [if_pos (by simp [d]), if_pos d]
    · rw [if_neg (by simp [d, e]), if_neg d]
theorem swpV_nil {fv : Str → Option (List (Int × Int))} {now : Int} {done : List Str} {k : Str} (h : fv k = some []) : swpV fv now (done ++ [k]) = swpV fv now done := by
  funext x
  unfold swpV
  by_cases e : x = k
  · subst e; rw [if_pos (by simp), h]
    by_cases d : x ∈ done
    · rw [if_pos d]
    · rw [if_neg d]; rfl
  · by_cases d : x ∈ done
    · rw [if_pos (by simp [d]), if_pos d]
    · rw [if_neg (by simp [d, e]), if_neg d]
theorem take_keys {kvs : List (Str × Value)} {i : Nat} {k : Str} {x : Value} (h : kvs[i]? = some (k, x)) : (kvs.take (i + 1)).map (·.1) = (kvs.take i).map (·.1) ++ [k] := by
  rw [List.take_add_one, h]; simp
theorem not_done {kvs : List (Str × Value)} (nd : (kvs.map (·.1)).Nodup) {i : Nat} {k : Str} {x : Value} (h : kvs[i]? = some (k, x)) : k ∉ (kvs.take i).map (·.1) := by
  intro hm
  obtain ⟨q, hq, e⟩ := List.mem_map.mp hm
  obtain ⟨j, hj, hjq⟩ := List.mem_take_iff_getElem.mp hq
  have hi : i < kvs.length := by
    rcases Nat.lt_or_ge i kvs.length with h1 | h1
    · exact h1
    · rw [List.getElem?_eq_none h1] at h; cases h
  have e1 : kvs[i] = (k, x) := by rw [List.getElem?_eq_getElem hi] at h; exact Option.some.inj h
  have h2 : j < kvs.length := by (first | lia | omega)
  have h3 : (kvs.map (·.1))[j]'(by simpa using h2) = (kvs.map (·.1))[i]'(by simpa using hi) := by
    rw [List.getElem_map, List.getElem_map, e1, hjq, e]
  have := (List.getElem_inj (h₀ := by simpa using h2) (h₁ := by simpa using hi) nd).mp h3
  (first | lia | omega)
theorem valueAt_mem {kvs : List (Str × Value)} (nd : (kvs.map (·.1)).Nodup) {i : Nat} {k : Str} {x : Value} (h : kvs[i]? = some (k, x)) : valueAt kvs k = some x := by
  unfold valueAt
  induction kvs generalizing i with
  | nil => simp at h
  | cons q r ih =>
    cases i with
    | zero => simp at h; subst h; simp
    | succ i =>
      simp only [List.getElem?_cons_succ] at h
      have hne : q.1 ≠ k := fun e => by
        rw [List.map_cons, List.nodup_cons] at nd
        exact nd.1 (by rw [e]; exact List.mem_map.mpr ⟨(k, x), List.mem_of_getElem? h, rfl⟩)
      rw [List.find?_cons, decide_eq_false hne]
      exact ih (by rw [List.map_cons, List.nodup_cons] at nd; exact nd.2) h
structure J1 (prog : Program) (w : World) (S : Ids) (lg : List (Addr × Obj)) (ot os oe : Obj) (l : Addr) (vs : List Value) (cl : Nat) (kvs : List (Str × Value)) (fv : Str → Option (List (Int × Int))) (now : Int) (c : Nat) (i : Nat) (m : Str → Option Value) (news : List (Addr × Obj)) : Prop where
  ex : ∃ o5 ov lgT kvs', news = (640, ot) :: (588, o5) :: (S.ds, os) :: (S.de, oe) :: (S.dv, ov) :: (l, listOf vs.toArray cl) :: lgT ∧ m "self" = some (.ref S.st) ∧ LamLg (lgT ++ lg) expPos expQ o5 ∧
    ov.IsDictOf (strKind prog w) kvs' ∧ kvs'.length ≤ c ∧ VRel w (lgT ++ lg) kvs' (swpV fv now ((kvs.take i).map (·.1))) ∧ (∀ k, k ∉ (kvs.take i).map (·.1) → valueAt kvs' k = valueAt kvs k) ∧ (∀ q ∈ lgT, q.1 ∉ S.M ∧ @Ne Nat q.1 l)
structure OffL (S : Ids) (l : Addr) : Prop where
  n : (@Ne Nat 640 l) ∧ (@Ne Nat 588 l) ∧ (@Ne Nat S.ds l) ∧ (@Ne Nat S.de l) ∧ (@Ne Nat S.dv l)
theorem swpV_z {fv : Str → Option (List (Int × Int))} {now : Int} : swpV fv now [] = fv := by funext k; unfold swpV; simp
theorem lg_get {h : Heap} {lgT lg : List (Addr × Obj)} {a : Addr} {o : Obj} (hm : (a, o) ∈ lgT ++ lg) (h1 : ∀ q ∈ lgT, h.get? q.1 = some q.2) (h2 : ∀ q ∈ lg, h.get? q.1 = some q.2) : h.get? a = some o := by
  rcases List.mem_append.mp hm with hm | hm
  · exact h1 _ hm
  · exact h2 _ hm
theorem j1_next {prog : Program} {w : World} {S : Ids} {lg : List (Addr × Obj)} {ot os oe : Obj} {l I L : Addr} {oI : Obj} {vs : List Value} {cl : Nat} {kvs : List (Str × Value)} {fv : Str → Option (List (Int × Int))} {now : Int} {c i : Nat} {m' : Str → Option Value} {g h' : Heap} {tk : Nat} {s₁ : Shared}
    {newsX add lgT : List (Addr × Obj)} {o5 ov : Obj} {kvs' : List (Str × Value)} (F : Fr g L h' m') (N : News g L h' newsX) (mI : (I, oI) ∈ newsX) (e1 : (640, ot) ∈ newsX) (e2 : (588, o5) ∈ newsX) (e3 : (S.ds, os) ∈ newsX) (e4 : (S.de, oe) ∈ newsX) (e5 : (S.dv, ov) ∈ newsX) (e6 : (l, listOf vs.toArray cl) ∈ newsX)
    (hI : (@Ne Nat 640 I) ∧ (@Ne Nat 588 I) ∧ (@Ne Nat S.ds I) ∧ (@Ne Nat S.de I) ∧ (@Ne Nat S.dv I) ∧ (@Ne Nat l I)) (hIT : ∀ q ∈ lgT, @Ne Nat q.1 I) (mT : ∀ q ∈ lgT, q ∈ newsX ∧ q.1 ∉ S.M ∧ @Ne Nat q.1 l) (mA : ∀ q ∈ add, q ∈ newsX ∧ (q.1 ∉ S.M ∧ @Ne Nat q.1 l) ∧ @Ne Nat q.1 I)
    (self : m' "self" = some (.ref S.st)) (lam : LamLg ((add ++ lgT) ++ lg) expPos expQ o5) (dict : ov.IsDictOf (strKind prog w) kvs') (len : kvs'.length ≤ c) (rel : VRel w ((add ++ lgT) ++ lg) kvs' (swpV fv now ((kvs.take (i + 1)).map (·.1)))) (agree : ∀ k, k ∉ (kvs.take (i + 1)).map (·.1) → valueAt kvs' k = valueAt kvs k) :
    TurnEnd g L I oI (J1 prog w S lg ot os oe l vs cl kvs fv now c (i + 1)) s₁ { s₁ with heap := h', toks := tk } := by
  refine ⟨h', tk, m', (640, ot) :: (588, o5) :: (S.ds, os) :: (S.de, oe) :: (S.dv, ov) :: (l, listOf vs.toArray cl) :: (add ++ lgT), rfl, F, ?_, ?_, ⟨⟨o5, ov, add ++ lgT, kvs', rfl, self, lam, dict, len, rel, agree, ?_⟩⟩⟩
  · exact ncons (N _ mI) (ncons (N _ e1) (ncons (N _ e2) (ncons (N _ e3) (ncons (N _ e4) (ncons (N _ e5) (ncons (N _ e6) fun q hq => by
      rcases List.mem_append.mp hq with hq | hq
      · exact N q (mA q hq).1
      · exact N q (mT q hq).1))))))
  · simp only [List.forall_mem_cons]
    refine ⟨hI.1, hI.2.1, hI.2.2.1, hI.2.2.2.1, hI.2.2.2.2.1, hI.2.2.2.2.2, fun q hq => ?_⟩
    rcases List.mem_append.mp hq with hq | hq
    · exact (mA q hq).2.2
    · exact hIT q hq
  · intro q hq
    rcases List.mem_append.mp hq with hq | hq
    · exact (mA q hq).2.1
    · exact (mT q hq).2
theorem not_M {S : Ids} {a : Addr} (h : (@Ne Nat 640 a) ∧ (@Ne Nat 588 a) ∧ (@Ne Nat S.ds a) ∧ (@Ne Nat S.de a) ∧ (@Ne Nat S.dv a)) : a ∉ S.M := fun hm => by
  rcases mem_M hm with e | e | e | e | e
  · exact h.1 e.symm
  · exact h.2.1 e.symm
  · exact h.2.2.1 e.symm
  · exact h.2.2.2.1 e.symm
  · exact h.2.2.2.2 e.symm
theorem vrel_swp {w : World} {lg lgT add : List (Addr × Obj)} {kvs kvs' : List (Str × Value)} {fv : Str → Option (List (Int × Int))} {now : Int} {i : Nat} {k : Str} {x : Value} {es : List (Int × Int)} {vs : List Value} {D : Addr} (hr : VRel w (lgT ++ lg) kvs' (swpV fv now ((kvs.take i).map (·.1)))) (hkx : kvs[i]? = some (k, x)) (hfk : fv k = some es) (hents : EntsAt w lg vs es) (hne : es.length ≠ 0)
    (hm : (D, listOf (vs.take (bis (fun i => decide ((es.map fun q => -q.2).getD i 0 < -now)) vs.length 0 vs.length)).toArray 0) ∈ add) : VRel w ((add ++ lgT) ++ lg) (stored kvs' k (.ref D)) (swpV fv now ((kvs.take (i + 1)).map (·.1))) := by
  rw [take_keys hkx, swpV_put hfk]
  have hl := hents.len
  have e : swp1 now es = es.take (bis (fun i => decide ((es.map fun q => -q.2).getD i 0 < -now)) vs.length 0 vs.length) := by
    unfold swp1; rw [if_neg hne, hl]
  rw [e]
  refine (hr.more fun q hq => ?_).put ⟨D, _, 0, rfl, List.mem_append_left _ (List.mem_append_left _ hm), (hents.more fun q hq => List.mem_append_right _ hq).take _⟩
  rcases List.mem_append.mp hq with hq | hq
  · exact List.mem_append_left _ (List.mem_append_right _ hq)
  · exact List.mem_append_right _ hq
theorem agree_swp {kvs kvs' : List (Str × Value)} {i : Nat} {k : Str} {x v : Value} (hkx : kvs[i]? = some (k, x)) (h : ∀ k, k ∉ (kvs.take i).map (·.1) → valueAt kvs' k = valueAt kvs k) : ∀ k', k' ∉ (kvs.take (i + 1)).map (·.1) → valueAt (stored kvs' k v) k' = valueAt kvs k' := by
  intro k' hk'
  rw [take_keys hkx] at hk'
  rw [valueAt_stored, if_neg (fun e => hk' (by simp [e]))]
  exact h k' fun hm => hk' (List.mem_append_left _ hm)
theorem agree_nil {kvs kvs' : List (Str × Value)} {i : Nat} {k : Str} {x : Value} (hkx : kvs[i]? = some (k, x)) (h : ∀ k, k ∉ (kvs.take i).map (·.1) → valueAt kvs' k = valueAt kvs k) : ∀ k', k' ∉ (kvs.take (i + 1)).map (·.1) → valueAt kvs' k' = valueAt kvs k' := by
  intro k' hk'
  rw [take_keys hkx] at hk'
  exact h k' fun hm => hk' (List.mem_append_left _ hm)
theorem swpS_le {fs fe : Str → Option Int} {now : Int} {done : List Str} {k : Str} {x : Int} (h : fe k = some x) (hx : x ≤ now) : swpS fs fe now (done ++ [k]) = era (swpS fs fe now done) k ∧ swpE fe now (done ++ [k]) = era (swpE fe now done) k := by
  constructor
  · funext y
    unfold swpS era
    by_cases e : y = k
    · subst e; rw [if_pos (by simp), if_pos rfl, h]; dsimp only; rw [if_pos hx]
    · rw [if_neg e]
      by_cases d : y ∈ done
      · rw [if_pos (by simp [d])]; dsimp only; rw [if_pos d]
      · rw [if_neg (by simp [d, e])]; dsimp only; rw [if_neg d]
  · funext y
    unfold swpE era
    by_cases e : y = k
    · subst e; rw [if_pos (by simp), if_pos rfl, h]; dsimp only; rw [if_pos hx]
    · rw [if_neg e]
      by_cases d : y ∈ done
      · rw [if_pos (by simp [d])]; dsimp only; rw [if_pos d]
      · rw [if_neg (by simp [d, e])]; dsimp only; rw [if_neg d]
theorem swpS_gt {fs fe : Str → Option Int} {now : Int} {done : List Str} {k : Str} {x : Int} (h : fe k = some x) (hx : ¬ x ≤ now) (hd : k ∉ done) : swpS fs fe now (done ++ [k]) = swpS fs fe now done ∧ swpE fe now (done ++ [k]) = swpE fe now done := by
  constructor
  · funext y
    unfold swpS
    by_cases e : y = k
    · subst e; rw [if_pos (by simp), if_neg hd, h]; dsimp only; rw [if_neg hx]
    · by_cases d : y ∈ done
      · rw [if_pos (by simp [d]), if_pos d]
      · rw [if_neg (by simp [d, e]), if_neg d]
  · funext y
    unfold swpE
    by_cases e : y = k
    · subst e; rw [if_pos (by simp), if_neg hd, h]; dsimp only; rw [if_neg hx]
    · by_cases d : y ∈ done
      · rw [if_pos (by simp [d]), if_pos d]
      · rw [if_neg (by simp [d, e]), if_neg d]
theorem valueAt_out {kvs : List (Str × Value)} {k : Str} (h : k ∉ kvs.map (·.1)) : valueAt kvs k = none := by
  unfold valueAt
  rw [Option.map_eq_none_iff, List.find?_eq_none]
  intro q hq e
  exact h (List.mem_map.mpr ⟨q, hq, by simpa using e⟩)
theorem swpV_all {w : World} {lg : List (Addr × Obj)} {kvs : List (Str × Value)} {fv : Str → Option (List (Int × Int))} {now : Int} (hr : VRel w lg kvs fv) : swpV fv now (kvs.map (·.1)) = fun k => (fv k).map (swp1 now) := by
  funext k
  unfold swpV
  by_cases d : k ∈ kvs.map (·.1)
  · rw [if_pos d]
  · rw [if_neg d]
    rcases hr k with ⟨e, _⟩ | ⟨es, v, _, e, _⟩
    · rw [e]; rfl
    · rw [valueAt_out d] at e; cases e
theorem swpS_all {kvs : List (Str × Value)} {fs fe : Str → Option Int} {now : Int} (hr : IRel kvs fe) : swpS fs fe now (kvs.map (·.1)) = (fun k => match fe k with | some x => if x ≤ now then none else fs k | none => fs k) ∧ swpE fe now (kvs.map (·.1)) = fun k => match fe k with | some x => if x ≤ now then none else some x | none => none := by
  constructor
  · funext k
    unfold swpS
    by_cases d : k ∈ kvs.map (·.1)
    · rw [if_pos d]
    · rw [if_neg d]
      rcases hr k with ⟨e, _⟩ | ⟨es, v, _, e⟩
      · rw [e]
      · rw [valueAt_out d] at e; cases e
  · funext k
    unfold swpE
    by_cases d : k ∈ kvs.map (·.1)
    · rw [if_pos d]
    · rw [if_neg d]
      rcases hr k with ⟨e, _⟩ | ⟨es, v, _, e⟩
      · rw [e]
      · rw [valueAt_out d] at e; cases e
theorem Bd.sweep {σ : St} {c : Nat} {now : Int} (h : Bd σ c) : Bd (sSweep σ now) c := by
  have sub : ∀ es q, q ∈ swp1 now es → q ∈ es := fun es q hq => by
    unfold swp1 at hq
    split at hq
    · exact hq
    · exact List.mem_of_mem_take hq
  have len : ∀ es, (swp1 now es).length ≤ es.length := fun es => by
    unfold swp1
    split
    · exact Nat.le_refl _
    · rw [List.length_take]; (first | lia | omega)
  refine ⟨fun k i e => ?_, fun k i e => ?_, fun k es e => ?_, fun k es e => ?_⟩
  · simp only [sSweep] at e
    split at e
    · split at e
      · cases e
      · exact h.bs k i e
    · exact h.bs k i e
  · simp only [sSweep] at e
    split at e
    · split at e
      · cases e
      · cases e; exact h.be k _ (by assumption)
    · cases e
  · simp only [sSweep, Option.map_eq_some_iff] at e
    obtain ⟨es', e1, rfl⟩ := e
    exact Nat.le_trans (len es') (h.bv k es' e1)
  · simp only [sSweep, Option.map_eq_some_iff] at e
    obtain ⟨es', e1, rfl⟩ := e
    exact fun q hq => h.bq k es' e1 q (sub es' q hq)
structure J2 (prog : Program) (w : World) (S : Ids) (ot o5 ov : Obj) (lgT : List (Addr × Obj)) (l : Addr) (vs : List Value) (cl : Nat) (kvs : List (Str × Value)) (fs fe : Str → Option Int) (now : Int) (c : Nat) (i : Nat) (m : Str → Option Value) (news : List (Addr × Obj)) : Prop where
  ex : ∃ os oe, news = (640, ot) :: (588, o5) :: (S.ds, os) :: (S.de, oe) :: (S.dv, ov) :: (l, listOf vs.toArray cl) :: lgT ∧ m "self" = some (.ref S.st) ∧
    IObj prog w os (swpS fs fe now ((kvs.take i).map (·.1))) c ∧ IObj prog w oe (swpE fe now ((kvs.take i).map (·.1))) c
theorem j2_next {prog : Program} {w : World} {S : Ids} {ot o5 os oe ov : Obj} {l I L : Addr} {oI : Obj} {vs : List Value} {cl : Nat} {kvs : List (Str × Value)} {fs fe : Str → Option Int} {now : Int} {c i : Nat} {m' : Str → Option Value} {g h' : Heap} {tk : Nat} {s₁ : Shared}
    {newsX lgT : List (Addr × Obj)} (F : Fr g L h' m') (N : News g L h' newsX) (mI : (I, oI) ∈ newsX) (e1 : (640, ot) ∈ newsX) (e2 : (588, o5) ∈ newsX) (e3 : (S.ds, os) ∈ newsX) (e4 : (S.de, oe) ∈ newsX) (e5 : (S.dv, ov) ∈ newsX) (e6 : (l, listOf vs.toArray cl) ∈ newsX)
    (hI : (@Ne Nat 640 I) ∧ (@Ne Nat 588 I) ∧ (@Ne Nat S.ds I) ∧ (@Ne Nat S.de I) ∧ (@Ne Nat S.dv I) ∧ (@Ne Nat l I)) (hIT : ∀ q ∈ lgT, @Ne Nat q.1 I) (mT : ∀ q ∈ lgT, q ∈ newsX) (self : m' "self" = some (.ref S.st))
    (a : IObj prog w os (swpS fs fe now ((kvs.take (i + 1)).map (·.1))) c) (b : IObj prog w oe (swpE fe now ((kvs.take (i + 1)).map (·.1))) c) :
    TurnEnd g L I oI (J2 prog w S ot o5 ov lgT l vs cl kvs fs fe now c (i + 1)) s₁ { s₁ with heap := h', toks := tk } := by
  refine ⟨h', tk, m', (640, ot) :: (588, o5) :: (S.ds, os) :: (S.de, oe) :: (S.dv, ov) :: (l, listOf vs.toArray cl) :: lgT, rfl, F, ?_, ?_, ⟨⟨os, oe, rfl, self, a, b⟩⟩⟩
  · exact ncons (N _ mI) (ncons (N _ e1) (ncons (N _ e2) (ncons (N _ e3) (ncons (N _ e4) (ncons (N _ e5) (ncons (N _ e6) fun q hq => N q (mT q hq)))))))
  · simp only [List.forall_mem_cons]
    exact ⟨hI.1, hI.2.1, hI.2.2.1, hI.2.2.2.1, hI.2.2.2.2.1, hI.2.2.2.2.2, hIT⟩
noncomputable def ExpEvC (K : Frag) (prog : Program) (w : World) : Prop :=
  ∀ (p : Program) (loose : List Str) (mean : ExcName → Option Value) (mg mb : Str → Option Value) (S : Ids) (now : Int) (O : Ob) (A : Around) (s : Shared) (base : Heap) (outer : List Env) (σ : St) (c : Nat) (lg : List (Addr × Obj)) (Q : Result → Shared → Prop),
    Sto prog w K p loose mean mg mb A base outer s.heap S now O σ c lg → now < 2 ^ 29 → c ≤ 79 → ArOk A 40 →
    (∀ h' tk' O' lg' g', Aft prog w outer s.heap h' S O' (sSweep σ now) c lg lg' g' → Q (.ok (.ret .none)) { s with heap := h', toks := tk' }) →
    codeAny (model prog w) A (.call (.ref 593) ⟨[.ref S.st], []⟩) Q s

noncomputable def NextC (K : Frag) (prog : Program) (w : World) : Prop :=
  ∀ (p : Program) (loose : List Str) (mg mb : Str → Option Value) (g : Heap) (A : Around) (s : Shared) (hd scr : Addr) (vs : List Value) (ns : List Int) (k many : Int) (t t2 : Tok) (n0 : Nat) (Q E : Value → Shared → Prop),
    (∀ b o, g.get? b = some o → s.heap.get? b = some o) → g.get? hd = none → K.In g → TopRead p loose mg mb g → s.heap.get? hd = some (lstO [.ref scr, .int k t] n0) → g.IsList scr vs.toArray → IntsAre vs ns → ns.length ≤ 63 → 0 ≤ k → k < 2 ^ 20 → 1 ≤ many → many ≤ 100 → ArOk A 6 →
    (∀ h' tk' r u u' n', (∀ b o, s.heap.get? b = some o → b ≠ hd → h'.get? b = some o) → h'.get? hd = some (lstO [.ref scr, .int (k + 1) u'] n') → 0 ≤ r → r < many → Q (.int r u) { s with heap := h', toks := tk' }) →
    wpAny (model prog w) A (call (.ref 700) [.ref hd, .int many t2]) Q E s
def kIf {α : Type} (kind : Int) (a b c : α) : α := if kind = 0 then a else if kind = 1 then b else c
def limC (kind : Int) : Addr := kIf kind 241 202 296
def fTest (kind : Int) : Addr := kIf kind 229 190 275
def fHit (kind : Int) : Addr := kIf kind 220 181 266
def fStats (kind : Int) : Addr := kIf kind 238 199 284
def fClear (kind : Int) : Addr := kIf kind 158 158 293
noncomputable def sTestK (kind : Int) : St → Int → Str → Int → Int → Int → St := kIf kind (fun σ now key _ _ _ => sGetS σ now key) (fun σ _ _ _ _ _ => σ) (fun σ now key _ ex _ => sInfoS σ now (kP key now ex) (kC key now ex))
noncomputable def sHitK (kind : Int) : St → Int → Str → Int → Int → Int → St := kIf kind hit0S hit1S hit2S
noncomputable def sClearK (kind : Int) : St → Int → Str → Int → Int → Int → St := kIf kind (fun σ _ key _ _ _ => sClr σ key) (fun σ _ key _ _ _ => sClr σ key) (fun σ now key _ ex _ => sClr (sClr σ (kP key now ex)) (kC key now ex))
noncomputable def rTestK (kind : Int) : St → Int → Str → Int → Int → Int → Bool := kIf kind test0R test1R test2R
noncomputable def rHitK (kind : Int) : St → Int → Str → Int → Int → Int → Bool := kIf kind hit0R hit1R hit2R
noncomputable def leftK (kind : Int) : St → Int → Str → Int → Int → Int := kIf kind left0 left1 left2
noncomputable def resetK (kind : Int) : St → Int → Str → Int → Int → Int × Int := kIf kind (fun σ now key amount ex => (reset0 σ now key amount ex, 1)) (fun σ now key amount ex => (reset1 σ now key amount ex, 1)) reset2
noncomputable def twoK (kind : Int) : Bool := kIf kind false false true
structure LMeth (K : Frag) (C : Addr) (name : Str) (f : Addr) : Prop where
  a : plainGet K C name = true
  b : findIn K (.ref C) name = some (some (.ref f))
  c : isFn K (.ref f) = true
  k : keepIn K (.ref f) = true
  n : ∀ (w : World) (t : Tok) (st : Addr), getL name [⟨PyData.keyHash w.params "storage", .str "storage" t, .ref st⟩] = some none
noncomputable def BindK (K : Frag) (f : Addr) (args : Args) (bs : List (Str × Value)) : Prop := ∀ (s : Shared), K.In s.heap → ∀ fd oc od osl, K.lookup f = some ⟨oc, od, .func fd, osl⟩ → BindsTo s fd args bs
structure LimG (K : Frag) (prog : Program) (w : World) (kind : Int) : Prop where
  test : LimK K prog w (fTest kind) (limC kind) b4 0 (sTestK kind) (fun σ now key amount ex cost v _ _ => isB (rTestK kind σ now key amount ex cost) v)
  hit : LimK K prog w (fHit kind) (limC kind) b4 1 (sHitK kind) (fun σ now key amount ex cost v _ _ => isB (rHitK kind σ now key amount ex cost) v)
  stats : LimK K prog w (fStats kind) (limC kind) b3 0 (sTestK kind) (fun σ now key amount ex _ v h' h => WsAt (resetK kind σ now key amount ex) (twoK kind) (leftK kind σ now key amount ex) v h' h)
  clear : LimK K prog w (fClear kind) (limC kind) b3 0 (sClearK kind) (fun _ _ _ _ _ _ v _ _ => v = .none)
  mT : LMeth K (limC kind) "test" (fTest kind)
  mH : LMeth K (limC kind) "hit" (fHit kind)
  mS : LMeth K (limC kind) "get_window_stats" (fStats kind)
  mC : LMeth K (limC kind) "clear" (fClear kind)
  bT : ∀ (lim it tp : Addr) (cost : Int) (t : Tok), BindK K (fTest kind) ⟨[.ref lim, .ref it, .ref tp], [("cost", .int cost t)]⟩ (b4 lim it tp cost t)
  bT1 : ∃ t, ∀ (lim it tp : Addr), BindK K (fTest kind) ⟨[.ref lim, .ref it, .ref tp], []⟩ (b4 lim it tp 1 t)
  bH : ∀ (lim it tp : Addr) (cost : Int) (t : Tok), BindK K (fHit kind) ⟨[.ref lim, .ref it, .ref tp], [("cost", .int cost t)]⟩ (b4 lim it tp cost t)
  bS : ∀ (lim it tp : Addr), BindK K (fStats kind) ⟨[.ref lim, .ref it, .ref tp], []⟩ (b3 lim it tp 0 0)
  bC : ∀ (lim it tp : Addr), BindK K (fClear kind) ⟨[.ref lim, .ref it, .ref tp], []⟩ (b3 lim it tp 0 0)
theorem bindK_of {K : Frag} {f : Addr} {args : Args} {bs : List (Str × Value)} {oc : Value} {od : Option Addr} {fd : FuncData} {osl : Array (Option Value)} (h : K.lookup f = some ⟨oc, od, .func fd, osl⟩) (b : ∀ s : Shared, K.In s.heap → BindsTo s fd args bs) : BindK K f args bs :=
  fun s X fd' oc' od' osl' e => by rw [h] at e; cases e; exact b s X
structure LimsI (w : World) (base : Heap) (lims : Addr) (S : Ids) : Prop where
  ex : ∃ (la : Int → Addr) (n : Nat), base.get? lims = some (lstO [.ref (la 0), .ref (la 1), .ref (la 2)] n) ∧ ∀ kind : Int, (kind = 0 ∨ kind = 1 ∨ kind = 2) → LimI w base (limC kind) (la kind) S
theorem la_idx {la : Int → Addr} {kind : Int} (hk : kind = 0 ∨ kind = 1 ∨ kind = 2) : [Value.ref (la 0), Value.ref (la 1), Value.ref (la 2)][kind.toNat]? = some (.ref (la kind)) := by
  rcases hk with rfl | rfl | rfl <;> rfl
noncomputable def sStep (deed kind : Int) (σ : St) (now : Int) (key : Str) (amount ex cost : Int) : St :=
  if deed = 0 then sTestK kind σ now key amount ex cost else if deed = 1 then sClearK kind σ now key amount ex 0 else if deed = 2 then sSweep σ now else sHitK kind σ now key amount ex cost
noncomputable def vStep (deed kind : Int) (σ : St) (now : Int) (key : Str) (amount ex cost : Int) : Value :=
  if deed = 0 then .bool (rTestK kind σ now key amount ex cost) else if deed = 1 then .none else if deed = 2 then .none else .bool (rHitK kind σ now key amount ex cost)
theorem Dat.up {prog w lg O σ c} (D : Dat prog w lg O σ c) (h : c ≤ 79) : Dat prog w lg O σ (c + 1) := ⟨D.s.le (Nat.le_succ _), D.e.le (Nat.le_succ _), D.v.le (Nat.le_succ _), D.t, D.t5, D.b.up, by (first | lia | omega)⟩
section
variable {prog : Program} {w : World} {K : Frag} {p : Program} {loose : List Str} {mean : ExcName → Option Value} {mg mb : Str → Option Value} {A₀ : Around} {base g : Heap} {outer : List Env} {L a : Addr} {m : Str → Option Value} {name : Str} {scope : Scope} {cd : Value}
  {news : List (Addr × Obj)} {S : Ids} {now : Int} {O : Ob} {σ : St} {c : Nat} {lg : List (Addr × Obj)} {s : Shared} {Q E : Value → Shared → Prop} {key : Str} {amount ex cost : Int} {tc : Tok}
  {g1 : Obj → List (Addr × Obj)} {g2 : Obj → Obj → List (Addr × Obj)} {g3 : Obj → Obj → Obj → List (Addr × Obj)} {g4 : Obj → Obj → Obj → Obj → List (Addr × Obj)} {g5 : Obj → Obj → Obj → Obj → Obj → List (Addr × Obj)}
theorem lim_meth {A : Around} {C f lim : Addr} {mn : Str} {pl : Sem Bool} {Q : Value × List Value → Shared → Prop} (M : LMeth K C mn f) (F : Fr g L s.heap m) (X : K.In g) (B : base.StaysIn g) (I : LimI w base C lim S) (h : Q (.ref f, [.ref lim]) s) : wpAny (model prog w) A (getMethod (.ref lim) mn pl) Q E s := by
  obtain ⟨d, t, i1, i2⟩ := I
  exact methG F X (B _ _ i1) (B _ _ i2) M.a M.b M.c (M.n w t _) h
theorem lim_use {f C lim it tp : Addr} {bs : Addr → Addr → Addr → Int → Tok → List (Str × Value)} {dc : Nat} {σ' : St → Int → Str → Int → Int → Int → St} {R : St → Int → Str → Int → Int → Int → Value → Heap → Heap → Prop} {pos : List Value} {kw : List (Str × Value)}
    (LK : LimK K prog w f C bs dc σ' R) (Z : SB prog w K p loose mean mg mb base S now lg) (KB : Below A₀ base outer g) (F : Fr g L s.heap m) (N : News g L s.heap news) (mt : (640, O.t) ∈ news) (m5 : (588, O.t5) ∈ news) (ms : (S.ds, O.s) ∈ news) (me : (S.de, O.e) ∈ news) (mv : (S.dv, O.v) ∈ news)
    (U1 : UpdF 640 O.t news g1) (U2 : ∀ x, UpdF 588 O.t5 (g1 x) (g2 x)) (U3 : ∀ x y, UpdF S.ds O.s (g2 x y) (g3 x y)) (U4 : ∀ x y z, UpdF S.de O.e (g3 x y z) (g4 x y z)) (U5 : ∀ x y z u, UpdF S.dv O.v (g4 x y z u) (g5 x y z u))
    (D : Dat prog w lg O σ c) (hl : LimI w base C lim S) (I : ItA prog w K base it tp key amount ex) (hen : ex ≤ now) (hnow : now < 2 ^ 29) (hc0 : 0 ≤ cost) (hc1 : cost ≤ 60) (hcc : c ≤ 79) (hb : BindK K f ⟨pos, kw⟩ (bs lim it tp cost tc)) (hd : ArOk (A₀.deeper (envOf name scope L a cd)) 40)
    (ret : ∀ h' tk' v O' lg' g₂, KtsTurn (outer.filterMap (·.frame)) g g₂ → Fr g₂ L h' m → News g₂ L h' (g5 O'.t O'.t5 O'.s O'.e O'.v ++ lg') → Below A₀ base outer g₂ → K.In g₂ → TopRead p loose mg mb g₂ → (∀ q ∈ lg', q.1 ∉ S.M) → Dat prog w (lg' ++ lg) O' (σ' σ now key amount ex cost) (c + dc) → R σ now key amount ex cost v h' s.heap → Q v { s with heap := h', toks := tk' })
    (hk : scope.kind = .function := by rfl) : wpAny (model prog w) (A₀.deeper (envOf name scope L a cd)) (call (.ref f) pos kw) Q E s :=
  wpAny_call (LK p loose mean mg mb S now O _ s base _ lim it tp key amount ex cost tc σ c lg ⟨pos, kw⟩ _ (sto_call Z KB F N mt m5 ms me mv D hk) hl I hen hnow hc0 hc1 hcc (hb s (Z.X.keeps fun b o e => F.keep b o (KB.stays b o e))) hd fun h' tk' v O' lg' g' P r =>
    aft_use KB Z.X Z.T F N mt m5 ms me mv U1 U2 U3 U4 U5 P fun g₂ T₂ F₂ N₂ B₂ X₂ P₂ l₂ => ret h' tk' v O' lg' g₂ T₂ F₂ N₂ B₂ X₂ P₂ l₂ P.D r)
end
theorem exp_use {prog : Program} {w : World} {K : Frag} {p : Program} {loose : List Str} {mean : ExcName → Option Value} {mg mb : Str → Option Value} {A₀ : Around} {base g : Heap} {outer : List Env} {L a : Addr} {m : Str → Option Value} {name : Str} {scope : Scope} {cd : Value}
  {news : List (Addr × Obj)} {S : Ids} {now : Int} {O : Ob} {σ : St} {c : Nat} {lg : List (Addr × Obj)} {s : Shared} {Q E : Value → Shared → Prop}
  {g1 : Obj → List (Addr × Obj)} {g2 : Obj → Obj → List (Addr × Obj)} {g3 : Obj → Obj → Obj → List (Addr × Obj)} {g4 : Obj → Obj → Obj → Obj → List (Addr × Obj)} {g5 : Obj → Obj → Obj → Obj → Obj → List (Addr × Obj)}
    (LK : ExpEvC K prog w) (Z : SB prog w K p loose mean mg mb base S now lg) (KB : Below A₀ base outer g) (F : Fr g L s.heap m) (N : News g L s.heap news) (mt : (640, O.t) ∈ news) (m5 : (588, O.t5) ∈ news) (ms : (S.ds, O.s) ∈ news) (me : (S.de, O.e) ∈ news) (mv : (S.dv, O.v) ∈ news)
    (U1 : UpdF 640 O.t news g1) (U2 : ∀ x, UpdF 588 O.t5 (g1 x) (g2 x)) (U3 : ∀ x y, UpdF S.ds O.s (g2 x y) (g3 x y)) (U4 : ∀ x y z, UpdF S.de O.e (g3 x y z) (g4 x y z)) (U5 : ∀ x y z u, UpdF S.dv O.v (g4 x y z u) (g5 x y z u))
    (D : Dat prog w lg O σ c) (hnow : now < 2 ^ 29) (hcc : c ≤ 79) (hd : ArOk (A₀.deeper (envOf name scope L a cd)) 40)
    (ret : ∀ h' tk' O' lg' g₂, KtsTurn (outer.filterMap (·.frame)) g g₂ → Fr g₂ L h' m → News g₂ L h' (g5 O'.t O'.t5 O'.s O'.e O'.v ++ lg') → Below A₀ base outer g₂ → K.In g₂ → TopRead p loose mg mb g₂ → (∀ q ∈ lg', q.1 ∉ S.M) → Dat prog w (lg' ++ lg) O' (sSweep σ now) c → Q .none { s with heap := h', toks := tk' })
    (hk : scope.kind = .function := by rfl) : wpAny (model prog w) (A₀.deeper (envOf name scope L a cd)) (call (.ref 593) [.ref S.st]) Q E s :=
  wpAny_call (LK p loose mean mg mb S now O _ s base _ σ c lg _ (sto_call Z KB F N mt m5 ms me mv D hk) hnow hcc hd fun h' tk' O' lg' g' P =>
    aft_use KB Z.X Z.T F N mt m5 ms me mv U1 U2 U3 U4 U5 P fun g₂ T₂ F₂ N₂ B₂ X₂ P₂ l₂ => ret h' tk' O' lg' g₂ T₂ F₂ N₂ B₂ X₂ P₂ l₂ P.D)
noncomputable def StepC (K : Frag) (prog : Program) (w : World) : Prop :=
  ∀ (p : Program) (loose : List Str) (mean : ExcName → Option Value) (mg mb : Str → Option Value) (S : Ids) (now : Int) (O : Ob) (A : Around) (s : Shared) (base : Heap) (outer : List Env) (lims it tp : Addr) (key : Str) (amount ex cost deed kind : Int) (t1 t2 t3 : Tok) (σ : St) (c : Nat) (lg : List (Addr × Obj)) (Q E : Value → Shared → Prop),
    Sto prog w K p loose mean mg mb A base outer s.heap S now O σ c lg → LimsI w base lims S → ItA prog w K base it tp key amount ex → (kind = 0 ∨ kind = 1 ∨ kind = 2) → LimG K prog w kind → ex ≤ now → now < 2 ^ 29 → 0 ≤ cost → cost ≤ 60 → c ≤ 79 → 0 ≤ deed → ArOk A 60 →
    (∀ h' tk' O' lg' g', Aft prog w outer s.heap h' S O' (sStep deed kind σ now key amount ex cost) (c + 1) lg lg' g' → Q (vStep deed kind σ now key amount ex cost) { s with heap := h', toks := tk' }) →
    wpAny (model prog w) A (call (.ref 721) [.ref lims, .ref S.st, .int deed t1, .int kind t2, .ref it, .ref tp, .int cost t3]) Q E s
section
variable {prog : Program} {w : World} {K : Frag} {p : Program} {loose : List Str} {mean : ExcName → Option Value} {mg mb : Str → Option Value} {A₀ : Around} {base g : Heap} {outer : List Env} {L a : Addr} {m : Str → Option Value} {name : Str} {scope : Scope} {cd : Value}
  {news : List (Addr × Obj)} {S : Ids} {now : Int} {O : Ob} {σ : St} {c : Nat} {lg : List (Addr × Obj)} {s : Shared} {Q E : Value → Shared → Prop} {key : Str} {amount ex kind : Int}
  {g1 : Obj → List (Addr × Obj)} {g2 : Obj → Obj → List (Addr × Obj)} {g3 : Obj → Obj → Obj → List (Addr × Obj)} {g4 : Obj → Obj → Obj → Obj → List (Addr × Obj)} {g5 : Obj → Obj → Obj → Obj → Obj → List (Addr × Obj)}
theorem new_led {h h' : Heap} {g₂ : Heap} {x : Addr} {o : Obj} (F : Fr g L h m) (T : ∀ b, g.get? b = none → g₂.get? b = none) (e1 : h'.get? x = some o) (e2 : h.get? x = none) : h'.get? x = some o ∧ x ≠ L ∧ g₂.get? x = none := by
  refine ⟨e1, fun e => ?_, T _ ?_⟩
  · obtain ⟨oL, _, _, hL, _⟩ := F.ns
    rw [← e, e2] at hL; cases hL
  · cases z : g.get? x with
    | none => rfl
    | some o => have := F.keep _ _ z; rw [e2] at this; cases this
theorem stats_use {lim it tp : Addr} {two : Bool} (LG : LimG K prog w kind) (htwo : twoK kind = two) (Z : SB prog w K p loose mean mg mb base S now lg) (KB : Below A₀ base outer g) (F : Fr g L s.heap m) (N : News g L s.heap news) (mt : (640, O.t) ∈ news) (m5 : (588, O.t5) ∈ news) (ms : (S.ds, O.s) ∈ news) (me : (S.de, O.e) ∈ news) (mv : (S.dv, O.v) ∈ news)
    (U1 : UpdF 640 O.t news g1) (U2 : ∀ x, UpdF 588 O.t5 (g1 x) (g2 x)) (U3 : ∀ x y, UpdF S.ds O.s (g2 x y) (g3 x y)) (U4 : ∀ x y z, UpdF S.de O.e (g3 x y z) (g4 x y z)) (U5 : ∀ x y z u, UpdF S.dv O.v (g4 x y z u) (g5 x y z u))
    (D : Dat prog w lg O σ c) (hl : LimI w base (limC kind) lim S) (I : ItA prog w K base it tp key amount ex) (hen : ex ≤ now) (hnow : now < 2 ^ 29) (hcc : c ≤ 79) (hd : ArOk (A₀.deeper (envOf name scope L a cd)) 40)
    (ret : ∀ h' tk' x dx av t O' lg' g₂ add, KtsTurn (outer.filterMap (·.frame)) g g₂ → Fr g₂ L h' m → News g₂ L h' ((x, wsO dx av (.int (leftK kind σ now key amount ex) t)) :: (dx, emptyDict) :: (add ++ (g5 O'.t O'.t5 O'.s O'.e O'.v ++ lg'))) → Below A₀ base outer g₂ → K.In g₂ → TopRead p loose mg mb g₂ → (∀ q ∈ lg', q.1 ∉ S.M) → Dat prog w (lg' ++ lg) O' (sTestK kind σ now key amount ex 0) c →
      (∀ q ∈ news, (@Ne Nat q.1 x) ∧ (@Ne Nat q.1 dx)) → (∀ q ∈ add, ∀ r ∈ news, @Ne Nat r.1 q.1) → (if two then ∃ tr u1 u2, av = .ref tr ∧ add = [(tr, tupO [.int (resetK kind σ now key amount ex).1 u1, .int (resetK kind σ now key amount ex).2 u2])] else add = [] ∧ ∃ u, av = .int (resetK kind σ now key amount ex).1 u) → Q (.ref x) { s with heap := h', toks := tk' })
    (hk : scope.kind = .function := by rfl) : wpAny (model prog w) (A₀.deeper (envOf name scope L a cd)) (call (.ref (fStats kind)) [.ref lim, .ref it, .ref tp]) Q E s := by
  refine lim_use LG.stats Z KB F N mt m5 ms me mv U1 U2 U3 U4 U5 D hl I hen hnow (Int.le_refl 0) (by (first | lia | omega)) hcc (LG.bS lim it tp) hd (fun h' tk' v O' lg' g₂ T F' N' B' X' P' l' D' R => ?_) hk
  obtain ⟨x, dx, av, t, rfl, e1, e2, e3, e4, e5, r⟩ := R
  have nx := new_led F T.none_ e1 e3
  have nd := new_led F T.none_ e2 e4
  have hne : ∀ q ∈ news, (@Ne Nat q.1 x) ∧ (@Ne Nat q.1 dx) := fun q hq => ⟨fresh_ne N e3 q hq, fresh_ne N e4 q hq⟩
  rw [htwo] at r
  cases two with
  | false => exact ret h' tk' x dx av t O' lg' g₂ [] T F' (ncons nx (ncons nd N')) B' X' P' l' D' hne (fun _ h => nomatch h) ⟨rfl, r⟩
  | true =>
    obtain ⟨tr, u1, u2, rfl, f1, f2, f3, f4⟩ := r
    exact ret h' tk' x dx _ t O' lg' g₂ [(tr, _)] T F' (ncons nx (ncons nd (ncons (new_led F T.none_ f1 f2) N'))) B' X' P' l' D' hne (fun q hq r hr => by rw [List.mem_singleton.mp hq]; exact fresh_ne N f2 r hr) ⟨tr, u1, u2, rfl, rfl⟩
end
noncomputable def StatsC (K : Frag) (prog : Program) (w : World) : Prop :=
  ∀ (p : Program) (loose : List Str) (mean : ExcName → Option Value) (mg mb : Str → Option Value) (S : Ids) (now : Int) (O : Ob) (A : Around) (s : Shared) (base : Heap) (outer : List Env) (lims it tp : Addr) (key : Str) (amount ex kind : Int) (t2 : Tok) (σ : St) (c : Nat) (lg : List (Addr × Obj)) (Q E : Value → Shared → Prop),
    Sto prog w K p loose mean mg mb A base outer s.heap S now O σ c lg → LimsI w base lims S → ItA prog w K base it tp key amount ex → (kind = 0 ∨ kind = 1 ∨ kind = 2) → LimG K prog w kind → ex ≤ now → now < 2 ^ 29 → c ≤ 79 → ArOk A 60 →
    (∀ h' tk' O' lg' g' tt tr u1 u2 u3, Aft prog w outer s.heap h' S O' (sTestK kind σ now key amount ex 0) c lg lg' g' → h'.get? tt = some (tupO [.ref tr, .int (leftK kind σ now key amount ex) u3]) → h'.get? tr = some (tupO [.int (resetK kind σ now key amount ex).1 u1, .int (resetK kind σ now key amount ex).2 u2]) → s.heap.get? tt = none → s.heap.get? tr = none → Q (.ref tt) { s with heap := h', toks := tk' }) →
    wpAny (model prog w) A (call (.ref 714) [.ref lims, .int kind t2, .ref it, .ref tp]) Q E s
theorem twoK_no {kind : Int} (h : kind = 0 ∨ kind = 1) : twoK kind = false ∧ ∀ (σ : St) (now : Int) (key : Str) (amount ex : Int), (resetK kind σ now key amount ex).2 = 1 := by rcases h with rfl | rfl <;> exact ⟨rfl, fun _ _ _ _ _ => rfl⟩
theorem gone_turn {h h' g g₂ : Heap} {fs : List Addr} {L x : Addr} {news : List (Addr × Obj)} {S : Ids} {o : Obj} (hg : hideAll h S.M = g) (T : KtsTurn fs g g₂) (N : News g₂ L h' news) (hm : (x, o) ∈ news) (n : x ∉ S.M) : h.get? x = none := by
  cases q : h.get? x with
  | none => rfl
  | some y =>
    have h2 := hideAll_get S.M q n
    rw [hg] at h2
    obtain ⟨sl, hs⟩ := T.up h2
    rw [(N _ hm).2.2] at hs; cases hs
theorem next_use {prog : Program} {w : World} {A : Around} {E : Value → Shared → Prop} {s : Shared} {K : Frag} {p : Program} {loose : List Str} {mg mb : Str → Option Value} {g : Heap} {L hd scr : Addr} {m : Str → Option Value} {news : List (Addr × Obj)} {gg : Obj → List (Addr × Obj)} {vs : List Value} {ns : List Int} {k many : Int} {t t2 : Tok} {n0 : Nat} {Q : Value → Shared → Prop}
    (C : NextC K prog w) (F : Fr g L s.heap m) (N : News g L s.heap news) (U : UpdF hd (lstO [.ref scr, .int k t] n0) news gg) (X : K.In g) (T : TopRead p loose mg mb g) (hscr : g.IsList scr vs.toArray) (hi : IntsAre vs ns) (hn : ns.length ≤ 63) (k0 : 0 ≤ k) (k1 : k < 2 ^ 20) (m0 : 1 ≤ many) (m1 : many ≤ 100) (hd' : ArOk A 6)
    (ret : ∀ h' tk' r u u' n', Fr g L h' m → News g L h' (gg (lstO [.ref scr, .int (k + 1) u'] n')) → 0 ≤ r → r < many → Q (.int r u) { s with heap := h', toks := tk' }) : wpAny (model prog w) A (call (.ref 700) [.ref hd, .int many t2]) Q E s := by
  obtain ⟨pre, post, rfl, hg, a, b⟩ := U.split
  have hm := N (hd, lstO [.ref scr, .int k t] n0) (List.mem_append_right _ (.head _))
  refine C p loose mg mb g A s hd scr vs ns k many t t2 n0 Q E F.keep hm.2.2 X T hm.1 hscr hi hn k0 k1 m0 m1 hd' fun h' tk' r u u' n' kk e0 r0 r1 => ret h' tk' r u u' n' ?_ ?_ r0 r1
  · obtain ⟨oL, es, ep, hL, r⟩ := F.ns
    exact ⟨⟨oL, es, ep, kk _ _ hL (fun e => hm.2.1 e.symm), r⟩, fun b o e => kk _ _ (F.keep b o e) (fun q => by rw [q, hm.2.2] at e; cases e), F.above⟩
  · rw [hg]
    intro q hq
    rcases List.mem_append.mp hq with hq | hq
    · have := N q (List.mem_append_left _ hq); exact ⟨kk _ _ this.1 (a q hq), this.2⟩
    · rcases List.mem_cons.mp hq with rfl | hq
      · exact ⟨e0, hm.2⟩
      · have := N q (List.mem_append_right _ (.tail _ hq)); exact ⟨kk _ _ this.1 (b q hq), this.2⟩
theorem har_law (env : Env) : ArOk (callerA.deeper env) 100 := by
  refine ⟨?_, rfl, ?_⟩
  · show callerA.depth + 1 + 100 < recursionLimit
    decide +kernel
  · show callerA.units + 3 + 4 * 100 + 20 < cLine
    decide +kernel
theorem lookup_same {K : Frag} {a : Addr} {x y : Obj} {P : Prop} (h : K.lookup a = some x) (h2 : K.lookup a = some y) (k : x = y → P) : P := k (Option.some.inj (h.symm.trans h2))
theorem fields_k {P : Prop} {K : Frag} {a : Addr} {n : Nat} {n0 q0 : Str} {p0 : Arguments} {b0 : List Stmt} {s0 : Scope} {dV0 kV0 d0 m0 c0 t0 oc0 : Value} {an0 od0 : Option Addr} {sl0 : Array (Option Value)} {st0 : Stmt} {name qual : Str} {params : Arguments} {body : List Stmt} {scope : Scope} {dV kV doc pm cdv ct oc : Value} {an od : Option Addr} {osl : Array (Option Value)} {st : Stmt}
    (h0 : K.lookup a = some ⟨oc0, od0, .func (fnOf n0 q0 p0 b0 s0 dV0 kV0 d0 m0 an0 c0 t0), sl0⟩) (hs0 : b0[n]? = some st0) (h : K.lookup a = some ⟨oc, od, .func (fnOf name qual params body scope dV kV doc pm an cdv ct), osl⟩) (hs : body[n]? = some st) (k : st = st0 → qual = q0 → scope = s0 → cdv = c0 → P) : P := by
  have e := Option.some.inj (h0.symm.trans h)
  cases e
  exact k (Option.some.inj (hs0.symm.trans hs)).symm rfl rfl rfl
theorem back2X {g h h' : Heap} {L L' x dx : Addr} {m m' : Str → Option Value} {o od o' od' : Obj} {news newsX : List (Addr × Obj)} (F : Fr g L h m) (N : News g L h ((x, o) :: (dx, od) :: news)) (l1 : ∀ q ∈ news, q.1 < dx) (l2 : dx < x)
    (F' : Fr (hideAll h [x, dx]) L' h' m') (N' : News (hideAll h [x, dx]) L' h' newsX) (mx : (x, o') ∈ newsX) (md : (dx, od') ∈ newsX) :
    Fr g L h' m ∧ News g L h' ((x, o') :: (dx, od') :: news) ∧ ∀ q ∈ newsX, q.1 ≠ x → q.1 ≠ dx → (h'.get? q.1 = some q.2 ∧ q.1 ≠ L ∧ g.get? q.1 = none) ∧ h.get? q.1 = none := by
  have hne : @Ne Nat x dx := Nat.ne_of_gt l2
  have N2 : News (hideAll h [x, dx]) L' h' [(x, o'), (dx, od')] := ncons (N' _ mx) (ncons (N' _ md) fun _ h => nomatch h)
  obtain ⟨Fb, Nb⟩ := back2 F N l1 l2 F' N2
  refine ⟨Fb, Nb, fun q hq n1 n2 => ?_⟩
  have hq' := N' q hq
  have hn : h.get? q.1 = none := by
    cases z : h.get? q.1 with
    | none => rfl
    | some y => rw [hideAll_get _ z (by simp [n1, n2])] at hq'; exact absurd hq'.2.2 (by simp)
  refine ⟨⟨hq'.1, fun e => ?_, ?_⟩, hn⟩
  · obtain ⟨oL, _, _, hL, _⟩ := F.ns
    rw [← e, hn] at hL; cases hL
  · cases z : g.get? q.1 with
    | none => rfl
    | some y => have := F.keep _ _ z; rw [hn] at this; cases this
noncomputable def StNewC (K : Frag) (prog : Program) (w : World) : Prop :=
  ∀ (p : Program) (loose : List Str) (mg mb : Str → Option Value) (g : Heap) (L : Addr) (m : Str → Option Value) (news : List (Addr × Obj)) (A : Around) (s : Shared) (fc : Addr) (Q E : Value → Shared → Prop),
    Fr g L s.heap m → News g L s.heap news → K.In g → TopRead p loose mg mb g → ArOk A 10 →
    (∀ h' tk' x d ds de dv t1 t2 t3 t4 os oe ov, Fr g L h' m → News g L h' ((x, instObj 691 d) :: (d, dictOf [⟨PyData.keyHash w.params "clock", .str "clock" t1, .ref fc⟩, ⟨PyData.keyHash w.params "storage", .str "storage" t2, .ref ds⟩, ⟨PyData.keyHash w.params "expirations", .str "expirations" t3, .ref de⟩, ⟨PyData.keyHash w.params "events", .str "events" t4, .ref dv⟩] 4) :: (ds, os) :: (de, oe) :: (dv, ov) :: news) →
      os.IsDictOf (strKind prog w) [] → oe.IsDictOf (strKind prog w) [] → ov.IsDictOf (strKind prog w) [] → ((ds == sysModules) = false) → ((de == sysModules) = false) → ((dv == sysModules) = false) →
      (∀ q ∈ news, @LT.lt Nat _ q.1 d) → (@LT.lt Nat _ d x) → (@LT.lt Nat _ x ds) → (@LT.lt Nat _ ds de) → (@LT.lt Nat _ de dv) → Q (.ref x) { s with heap := h', toks := tk' }) →
    wpAny (model prog w) A (call (.ref 691) [.ref fc]) Q E s
noncomputable abbrev limD (w : World) (t : Tok) (st : Addr) : Obj := dictOf [⟨PyData.keyHash w.params "storage", .str "storage" t, .ref st⟩] 1
noncomputable def LimNewC (K : Frag) (prog : Program) (w : World) (C : Addr) : Prop :=
  ∀ (p : Program) (loose : List Str) (mg mb : Str → Option Value) (g : Heap) (L : Addr) (m : Str → Option Value) (news : List (Addr × Obj)) (A : Around) (s : Shared) (st : Addr) (Q E : Value → Shared → Prop),
    Fr g L s.heap m → News g L s.heap news → K.In g → TopRead p loose mg mb g → ArOk A 10 →
    (∀ h' tk' x d t1, Fr g L h' m → News g L h' ((x, instObj C d) :: (d, limD w t1 st) :: news) → (∀ q ∈ news, @LT.lt Nat _ q.1 d) → (@LT.lt Nat _ d x) → Q (.ref x) { s with heap := h', toks := tk' }) →
    wpAny (model prog w) A (call (.ref C) [.ref st]) Q E s
noncomputable def ItNewC (K : Frag) (prog : Program) (w : World) (C : Addr) (ns : Str) (args : Int → Int → Tok → Tok → Tok → List Value) : Prop :=
  ∀ (p : Program) (loose : List Str) (mg mb : Str → Option Value) (g : Heap) (L : Addr) (m : Str → Option Value) (news : List (Addr × Obj)) (A : Around) (s : Shared) (amount length : Int) (u1 u2 u3 : Tok) (Q E : Value → Shared → Prop),
    Fr g L s.heap m → News g L s.heap news → K.In g → TopRead p loose mg mb g → 0 ≤ amount → amount ≤ 50 → 1 ≤ length → length ≤ 50 → ArOk A 10 →
    (∀ h' tk' x d t1 t2 t3 t4 t5 t6, Fr g L h' m → News g L h' ((x, instObj C d) :: (d, dictOf (itDict w ns amount length t1 t2 t3 t4 t5 t6) 3) :: news) → (∀ q ∈ news, @LT.lt Nat _ q.1 d) → (@LT.lt Nat _ d x) → Q (.ref x) { s with heap := h', toks := tk' }) →
    wpAny (model prog w) A (call (.ref C) (args amount length u1 u2 u3)) Q E s
theorem limnew_use {prog : Program} {w : World} {K : Frag} {C : Addr} {p : Program} {loose : List Str} {mg mb : Str → Option Value} {g : Heap} {L : Addr} {m : Str → Option Value} {news : List (Addr × Obj)} {A : Around} {s : Shared} {st : Addr} {Q E : Value → Shared → Prop} (CC : LimNewC K prog w C)
    (F : Fr g L s.heap m) (N : News g L s.heap news) (X : K.In g) (T : TopRead p loose mg mb g) (hd : ArOk A 10)
    (ret : ∀ h' tk' x d t1, Fr g L h' m → News g L h' ((x, instObj C d) :: (d, limD w t1 st) :: news) → (∀ q ∈ news, @LT.lt Nat _ q.1 d) → (@LT.lt Nat _ d x) → Q (.ref x) { s with heap := h', toks := tk' }) : wpAny (model prog w) A (call (.ref C) [.ref st]) Q E s :=
  CC p loose mg mb g L m news A s st Q E F N X T hd ret
noncomputable def LimsNewC (K : Frag) (prog : Program) (w : World) : Prop :=
  ∀ (p : Program) (loose : List Str) (mg mb : Str → Option Value) (g : Heap) (L : Addr) (m : Str → Option Value) (news : List (Addr × Obj)) (A : Around) (s : Shared) (st : Addr) (Q E : Value → Shared → Prop),
    Fr g L s.heap m → News g L s.heap news → K.In g → TopRead p loose mg mb g → ArOk A 20 →
    (∀ h' tk' l a0 a1 a2 add, Fr g L h' m → News g L h' ((l, lstO [.ref a0, .ref a1, .ref a2] 0) :: (add ++ news)) → (∀ q ∈ news, @Ne Nat q.1 l) → (∀ r ∈ add, ∀ q ∈ news, @Ne Nat q.1 r.1) →
      (∃ d0 d1 d2 t0 t1 t2, add = [(a0, instObj 241 d0), (d0, limD w t0 st), (a1, instObj 202 d1), (d1, limD w t1 st), (a2, instObj 296 d2), (d2, limD w t2 st)]) → Q (.ref l) { s with heap := h', toks := tk' }) →
    wpAny (model prog w) A (call (.ref 707) [.ref st]) Q E s
section
variable {prog : Program} {w : World} {K : Frag} {p : Program} {loose : List Str} {mg mb : Str → Option Value} {g : Heap} {L : Addr} {m : Str → Option Value} {news : List (Addr × Obj)} {A : Around} {s : Shared} {Q E : Value → Shared → Prop}
theorem stnew_use {fc : Addr} (CC : StNewC K prog w) (F : Fr g L s.heap m) (N : News g L s.heap news) (X : K.In g) (T : TopRead p loose mg mb g) (hd : ArOk A 10)
    (ret : ∀ h' tk' x d ds de dv t1 t2 t3 t4 os oe ov, Fr g L h' m → News g L h' ((x, instObj 691 d) :: (d, dictOf [⟨PyData.keyHash w.params "clock", .str "clock" t1, .ref fc⟩, ⟨PyData.keyHash w.params "storage", .str "storage" t2, .ref ds⟩, ⟨PyData.keyHash w.params "expirations", .str "expirations" t3, .ref de⟩, ⟨PyData.keyHash w.params "events", .str "events" t4, .ref dv⟩] 4) :: (ds, os) :: (de, oe) :: (dv, ov) :: news) →
      os.IsDictOf (strKind prog w) [] → oe.IsDictOf (strKind prog w) [] → ov.IsDictOf (strKind prog w) [] → ((ds == sysModules) = false) → ((de == sysModules) = false) → ((dv == sysModules) = false) →
      (∀ q ∈ news, @LT.lt Nat _ q.1 d) → (@LT.lt Nat _ d x) → (@LT.lt Nat _ x ds) → (@LT.lt Nat _ ds de) → (@LT.lt Nat _ de dv) → Q (.ref x) { s with heap := h', toks := tk' }) : wpAny (model prog w) A (call (.ref 691) [.ref fc]) Q E s :=
  CC p loose mg mb g L m news A s fc Q E F N X T hd ret
theorem itnew_use {C : Addr} {ns : Str} {args : Int → Int → Tok → Tok → Tok → List Value} {amount length : Int} {u1 u2 u3 : Tok} {vs : List Value} (CC : ItNewC K prog w C ns args) (ea : args amount length u1 u2 u3 = vs) (F : Fr g L s.heap m) (N : News g L s.heap news) (X : K.In g) (T : TopRead p loose mg mb g) (a0 : 0 ≤ amount) (a1 : amount ≤ 50) (b0 : 1 ≤ length) (b1 : length ≤ 50) (hd : ArOk A 10)
    (ret : ∀ h' tk' x d t1 t2 t3 t4 t5 t6, Fr g L h' m → News g L h' ((x, instObj C d) :: (d, dictOf (itDict w ns amount length t1 t2 t3 t4 t5 t6) 3) :: news) → (∀ q ∈ news, @LT.lt Nat _ q.1 d) → (@LT.lt Nat _ d x) → Q (.ref x) { s with heap := h', toks := tk' }) : wpAny (model prog w) A (call (.ref C) vs) Q E s := by
  subst ea; exact CC p loose mg mb g L m news A s amount length u1 u2 u3 Q E F N X T a0 a1 b0 b1 hd ret
theorem limsnew_use {st : Addr} (CC : LimsNewC K prog w) (F : Fr g L s.heap m) (N : News g L s.heap news) (X : K.In g) (T : TopRead p loose mg mb g) (hd : ArOk A 20)
    (ret : ∀ h' tk' l a0 a1 a2 d0 d1 d2 t0 t1 t2, Fr g L h' m → News g L h' ((l, lstO [.ref a0, .ref a1, .ref a2] 0) :: (a0, instObj 241 d0) :: (d0, limD w t0 st) :: (a1, instObj 202 d1) :: (d1, limD w t1 st) :: (a2, instObj 296 d2) :: (d2, limD w t2 st) :: news) → (∀ q ∈ news, (@Ne Nat q.1 l) ∧ (@Ne Nat q.1 a0) ∧ (@Ne Nat q.1 d0) ∧ (@Ne Nat q.1 a1) ∧ (@Ne Nat q.1 d1) ∧ (@Ne Nat q.1 a2) ∧ (@Ne Nat q.1 d2)) → Q (.ref l) { s with heap := h', toks := tk' }) : wpAny (model prog w) A (call (.ref 707) [.ref st]) Q E s :=
  CC p loose mg mb g L m news A s st Q E F N X T hd fun h' tk' l a0 a1 a2 add F' N' n1 n2 e => by
    obtain ⟨d0, d1, d2, t0, t1, t2, rfl⟩ := e
    simp only [List.forall_mem_cons] at n2
    exact ret h' tk' l a0 a1 a2 d0 d1 d2 t0 t1 t2 F' N' fun q hq => ⟨n1 q hq, n2.1 q hq, n2.2.1 q hq, n2.2.2.1 q hq, n2.2.2.2.1 q hq, n2.2.2.2.2.1 q hq, n2.2.2.2.2.2.1 q hq⟩
end
section
variable {prog : Program} {w : World} {A : Around} {R : Result → Shared → Prop} {s : Shared} {p : Program} {loose : List Str} {mg mb : Str → Option Value} {c' : Addr} {cl : List (Str × Addr)}
  {name qual : Str} {params : Arguments} {body : PySem.Expr} {scope : Scope} {pm ctv : Value} {f : Addr} {args : Args} {binds : List (Str × Value)}
theorem enterLC (T : TopRead p loose mg mb s.heap)
    (ho : s.heap.get? f = some (kla_obj name qual params body scope cl pm c' ctv)) (hcd : s.heap.CodeRec (.ref c') qual) (hroom : A.depth < recursionLimit)
    (hbind : bindArgs (kla_fn name qual params body scope cl pm (.ref c') ctv) args = pure binds) (hloc : ∀ y ∈ binds, scope.names.lookup y.1 = some .local)
    (h : ∀ L' h₁, Fr s.heap L' h₁ (fun y => binds.reverse.lookup y) → News s.heap L' h₁ [] →
      wpAny (model prog w) (A.deeper (envX qual scope L' f (.ref c') cl)) (eval body (envX qual scope L' f (.ref c') cl))
        (fun v s' => R (.ok (.ret v)) s')
        (fun e s' => wpAny (model prog w) (A.deeper (envX qual scope L' f (.ref c') cl)) (leaving (envX qual scope L' f (.ref c') cl) e) (fun _ s'' => R (.error e) s'') (fun e' s'' => R (.error e') s'') s')
        { s with heap := h₁, toks := s.toks + binds.length })
    (hco : scope.isCoroutine = false) (hgen : scope.isGenerator = false) (hk : scope.kind = .function)
    (hcell : ∀ x ∈ scope.names, x.2 ≠ .cell) : codeAny (model prog w) A (.call (.ref f) args) R s := by
  refine kla_callFunE hroom ho rfl hco hgen rfl hcd ?_
  rw [hbind]
  refine wpAny_pure (wpAny_newFunctionEnv hcell hloc (fun h₁ hns hsb => ⟨T.nolimit.fresh _ hsb, ?_⟩) hk)
  have hk₁ : ∀ b o, s.heap.get? b = some o → h₁.get? b = some o := fun b o e => hsb.extBut b o (Nat.ne_of_lt (Heap.lt_size e)) (Heap.get?_push_of_some _ e)
  exact kla_codeExpr (h s.heap.objs.size h₁ ⟨hns, hk₁, Nat.le_refl _⟩ (fun _ hp => nomatch hp))
end
noncomputable abbrev clkParams : Arguments := { posonlyargs := [], args := [], vararg := none, kwonlyargs := [], kw_defaults := [], kwarg := none, defaults := [] }
noncomputable abbrev clkBody1 (p1 p2 p3 : Pos) : PySem.Expr := .Subscript (.Name "now" p1) (.Constant (.int 0) 0 p2) p3
noncomputable abbrev clkScope1 : Scope := { kind := .function, names := [("now", .free)], isGenerator := false, isCoroutine := false }
noncomputable def ClkC1 (K : Frag) (prog : Program) (w : World) : Prop :=
  ∀ (p : Program) (loose : List Str) (mg mb : Str → Option Value) (g : Heap) (fc c' c nowl : Addr) (qual : Str) (pm ctv : Value) (p1 p2 p3 : Pos) (n : Int) (t : Tok) (k0 : Nat) (oc : Obj),
    K.In g → TopRead p loose mg mb g → g.get? fc = some (kla_obj "<lambda>" qual clkParams (clkBody1 p1 p2 p3) clkScope1 [("now", c)] pm c' ctv) → g.CodeRec (.ref c') qual → g.get? c = some oc → oc.data = .cell (some (.ref nowl)) → g.get? nowl = some (lstO [.int n t] k0) → Clk prog w g fc n
theorem nameX_FG {M : Model} {A : Around} {E : Value → Shared → Prop} {s : Shared} {h₀ : Heap} {L a c : Addr} {m : Str → Option Value} {cn : Str} {cs : Scope} {ccd : Value} {cl : List (Str × Addr)} {x : Str} {pos : Pos} {v : Value} {o : Obj} {Q : Value → Shared → Prop} (F : Fr h₀ L s.heap m) (hc : cl.lookup x = some c) (hm : h₀.get? c = some o) (hd : o.data = .cell (some v)) (h : Q v s)
    (hk : cs.kind = .function := by rfl) (hx : (envX cn cs L a ccd cl).kindOf x = some .free := by rfl) (hb : (x == ("__debug__" : Str)) = false := by decide) (hn : (x == ("__classdict__" : Str)) = false := by decide) :
    wpAny M A (eval (.Name x pos) (envX cn cs L a ccd cl)) Q E s := wpAny_Name (wpAny_loadName_free hk hx hc ⟨o, F.keep _ _ hm, hd⟩ h hn) hb
noncomputable abbrev clkBody2 (p1 p2 p3 p4 p5 p6 p7 : Pos) : PySem.Expr := .BinOp (.BinOp (.Constant (.int 60) 0 p1) .Mult (.Subscript (.Name "now" p2) (.Constant (.int 0) 0 p3) p4) p5) .Add (.Name "ahead" p6) p7
noncomputable abbrev clkScope2 : Scope := { kind := .function, names := [("ahead", .free), ("now", .free)], isGenerator := false, isCoroutine := false }
noncomputable def ClkC2 (K : Frag) (prog : Program) (w : World) : Prop :=
  ∀ (p : Program) (loose : List Str) (mg mb : Str → Option Value) (g : Heap) (fc c' c c2 nowl : Addr) (qual : Str) (pm ctv : Value) (p1 p2 p3 p4 p5 p6 p7 : Pos) (n a : Int) (t ta : Tok) (k0 : Nat) (oc oa : Obj),
    K.In g → TopRead p loose mg mb g → g.get? fc = some (kla_obj "<lambda>" qual clkParams (clkBody2 p1 p2 p3 p4 p5 p6 p7) clkScope2 [("now", c), ("ahead", c2)] pm c' ctv) → g.CodeRec (.ref c') qual → g.get? c = some oc → oc.data = .cell (some (.ref nowl)) → g.get? c2 = some oa → oa.data = .cell (some (.int a ta)) → g.get? nowl = some (lstO [.int n t] k0) → Clk prog w g fc (60 * n + a)
section
variable {prog : Program} {w : World} {K : Frag} {p : Program} {loose : List Str} {mean : ExcName → Option Value} {mg mb : Str → Option Value} {g h h' : Heap} {L : Addr} {m : Str → Option Value} {env : Env}
  {news : List (Addr × Obj)} {S : Ids} {now : Int} {O O' : Ob} {σ σ' : St} {c c' : Nat} {lg lg' : List (Addr × Obj)} {g' : Heap}
theorem law_base (F : Fr g L h m) (N : News g L h news) (hn : ∀ a ∈ S.M, a ≠ L ∧ g.get? a = none) : (∀ b o, g.get? b = some o → (hideAll h (L :: S.M)).get? b = some o) ∧ ∀ q ∈ news, q.1 ∉ S.M → (hideAll h (L :: S.M)).get? q.1 = some q.2 :=
  ⟨hidden F.keep fun a ha => by
    rcases List.mem_cons.mp ha with rfl | ha
    · exact kts_self F
    · exact (hn a ha).2, fun q hq hM => hideAll_get _ (N q hq).1 fun hm => by
    rcases List.mem_cons.mp hm with e | hm
    · exact (N q hq).2.1 e
    · exact hM hm⟩
end
theorem for_rng {prog : Program} {w : World} {A : Around} {E : Value → Shared → Prop} {s : Shared} {env : Env} {h₀ : Heap} {x : Str} {body : List Stmt} {Q : Flow → Shared → Prop} {r : Addr} {b : Int} {t₀ u₀ v₀ : Tok} {n : Nat} {m₀ : Str → Option Value} {news : List (Addr × Obj)} (J : Nat → (Str → Option Value) → List (Addr × Obj) → Prop)
    (hh : A.handled = none) (hr : IsRange s.heap r 0 b 1 t₀ u₀ v₀) (hsmall : Builtin.Range.small 0 b 1 = true) (hn : Builtin.Range.rangeSize 0 b 1 = (n : Int)) (F : Fr h₀ env.locals s.heap m₀) (N : News h₀ env.locals s.heap news) (hj : J 0 m₀ news)
    (turn : ∀ (i : Nat) t m₁ news₁ h tk I oI, i < n → J i m₁ news₁ → (∀ p ∈ news₁, @Ne Nat p.1 I) → Fr h₀ env.locals h (fun y => if y = x then some (.int i t) else m₁ y) → News h₀ env.locals h ((I, oI) :: news₁) →
      wpAny (model prog w) A (execs body env) (TurnPost h₀ env.locals I oI (J (i + 1)) { s with heap := h, toks := tk } Q) E { s with heap := h, toks := tk })
    (done : ∀ m₁ news₁ h tk, J n m₁ news₁ → Fr h₀ env.locals h m₁ → News h₀ env.locals h news₁ → Q .next { s with heap := h, toks := tk }) :
    wpAny (model prog w) A (pyIter (.ref r)) (fun it s₂ => LoopAtV prog w A h₀ env x body Q E it s₂) E s := by
  refine wpAny_pyIter_range hr hsmall ?_
  have W := (Walks.range (prog := prog) (w := w) (A := A) hh s.heap.objs.size 0 1 n).bound
  refine ex9 _ _ _ (n) _ _ m₀ news J ⟨rfl, W, ?_, ?_, ?_, ?_, F.push _, (fun p hp => ⟨Heap.get?_push_of_some _ (N p hp).1, (N p hp).2⟩), hj, ?_, ?_⟩
  · intro hm
    exact absurd F.ns.lt ((List.mem_singleton.mp hm) ▸ Nat.lt_irrefl _)
  · intro b hb
    rw [List.mem_singleton.mp hb]
    exact next_is_new F
  · intro p hp hI
    exact absurd (Heap.lt_size (N p hp).1) ((List.mem_singleton.mp hI) ▸ Nat.lt_irrefl _)
  · show IsRangeIter _ _ _ _ _
    rw [hn]
    simpa using Heap.get?_push_size _ rfl
  · rintro i v m₁ news₁ s₁ own ⟨hh', tk', rfl⟩ hin hP hJ hoff hown hget hall hst F₁ N₁
    obtain ⟨_, t, rfl⟩ := hP
    have hoI := hst
    have hIown := hall _ (.head _) (next_is_new F) _ hoI
    have hoff' : ∀ p ∈ news₁, @Ne Nat p.1 s.heap.objs.size := fun p hp e => hoff p hp (by rw [show p.1 = s.heap.objs.size from e]; exact .head _)
    have N₂ := ncons (N₁ _ (List.mem_append_left _ hIown)) (fun q hq => N₁ q (List.mem_append_right own hq) : News h₀ env.locals hh' news₁)
    have F₂ : Fr h₀ env.locals hh' (fun y => if y = x then some (.int i t) else m₁ y) := by
      have e : (0 : Int) + (i : Nat) * 1 = (i : Int) := by (first | lia | omega)
      rw [e] at F₁; exact F₁
    refine wpAny_mono (turn i t m₁ news₁ hh' tk' _ _ hin hJ hoff' F₂ N₂) (fun f s₂ p => ?_) fun _ _ e => e
    have fin : ∀ oI, (s.heap.objs.size, oI) ∈ own → TurnEnd h₀ env.locals s.heap.objs.size oI (J (i + 1)) { s with heap := hh', toks := tk' } s₂ → LoopStepU h₀ env.locals [s.heap.objs.size] own (J (i + 1)) { s with heap := hh', toks := tk' } .next s₂ := by
      rintro oI hm ⟨h', tk, m', news', e, F', N', hoff₂, hm₂⟩
      refine ⟨rfl, h', tk, m', news', e, F', fun q hq => ?_, fun p hp hb => hoff₂ p hp (List.mem_singleton.mp hb), hm₂⟩
      rcases List.mem_append.mp hq with hq | hq
      · have e1 := List.mem_singleton.mp (hown q hq)
        have e2 : q = (s.heap.objs.size, oI) := by
          have h3 := hget q hq
          have h4 := hget _ hm
          obtain ⟨qa, qo⟩ := q
          have e1' : qa = s.heap.objs.size := e1
          subst e1'
          have h5 : some qo = some oI := h3.symm.trans h4
          cases h5; rfl
        rw [e2]; exact N' _ (.head _)
      · exact N' _ (.tail _ hq)
    cases f with
    | ret v => exact .ret p
    | brk => exact .brk p
    | next => exact .next (fin _ hIown p)
    | cont => exact .cont (fin _ hIown p)
  · rintro h' tk m' news' F' N' _ hJ
    exact done m' news' h' tk hJ F' N'
theorem ita_of {prog : Program} {w : World} {K : Frag} {p : Program} {loose : List Str} {mg mb : Str → Option Value} {C it tp : Addr} {sec amount length : Int} {gran ns : Str} {names : List Str} {b base : Heap} {vs : List Value} (IK : ItK K C) (Ex : ExpC K prog w C sec) (Kf : KfC K prog w C gran names) (hb : ∀ a o, b.get? a = some o → base.get? a = some o) (X : K.In b) (T : TopRead p loose mg mb b)
    (I : ItI w b base C it ns amount length) (hnt : b.get? tp = none) (htp : base.get? tp = some (tupO vs)) (hvs : StrsAre vs names) (hns : ns.length ≤ 20) (a0 : 0 ≤ amount) (a1 : amount ≤ 50) (l0 : 0 ≤ length) (l1 : length ≤ 1000) (x0 : 1 ≤ sec * length) (x1 : sec * length ≤ 1000) (hk : (itKey ns names amount length gran).length ≤ 800) :
    ItA prog w K base it tp (itKey ns names amount length gran) amount (sec * length) := by
  obtain ⟨dx, t1, t2, t3, t4, t5, t6, i1, i2, n1, n2⟩ := id I.ex
  refine ⟨⟨C, dx, _, 3, t4, IK, i1, i2, by k_get, by k_get, by k_get⟩, fun A s Q E hd hs ret => ?_, fun A s Q E hd hs ret => ?_, ⟨a0, a1⟩, ⟨x0, x1⟩, hk⟩
  · exact Kf p loose mg mb A s b it tp ns amount length vs Q E (fun a o e => hs a o (hb a o e)) X T (I.keeps hs) hnt (hs _ _ htp) hvs hns a0 (by (first | lia | omega)) l0 l1 hd ret
  · exact Ex p loose mg mb A s b it ns amount length Q E (fun a o e => hs a o (hb a o e)) X T (I.keeps hs) l0 l1 hd ret

theorem sh_fdiv {t L x : Int} (hL : 0 < L) : (60 * t + 60 * L * (1 + x)).fdiv (60 * L) = t.fdiv L + (1 + x) := by
  have h60 : 0 < 60 * L := by (first | lia | omega)
  rw [Int.fdiv_eq_ediv_of_nonneg _ (Int.le_of_lt h60), Int.fdiv_eq_ediv_of_nonneg _ (Int.le_of_lt hL), Int.add_mul_ediv_left _ _ (Int.ne_of_gt h60), Int.mul_ediv_mul_of_pos _ _ (by decide)]
theorem sh_fmod {t L x : Int} (hL : 0 < L) : (60 * t + 60 * L * (1 + x)).fmod (60 * L) = 60 * t.fmod L := by
  have h60 : 0 < 60 * L := by (first | lia | omega)
  rw [Int.fmod_eq_emod_of_nonneg _ (Int.le_of_lt h60), Int.fmod_eq_emod_of_nonneg _ (Int.le_of_lt hL), Int.add_mul_emod_self_left, Int.mul_emod_mul_of_pos _ _ (by decide)]
structure RK (a : Int) (f1 e1 f2 e2 : Str → Option Int) (k1 k2 : Str) : Prop where
  s : f2 k2 = f1 k1
  e : e2 k2 = (e1 k1).map fun x => 60 * x + a
theorem RK.due {a t : Int} {f1 e1 f2 e2 : Str → Option Int} {k1 k2 : Str} (h : RK a f1 e1 f2 e2 k1 k2) (h0 : 0 ≤ t) (ha : 0 ≤ a) : ((e2 k2).getD 0 ≤ 60 * t + a) = ((e1 k1).getD 0 ≤ t) := by
  rw [h.e]
  cases e1 k1 with
  | none => exact propext ⟨fun _ => h0, fun _ => by show (0 : Int) ≤ _; (first | lia | omega)⟩
  | some x => exact propext ⟨fun z => by have : 60 * x + a ≤ 60 * t + a := z; show x ≤ t; (first | lia | omega), fun z => by have : x ≤ t := z; show 60 * x + a ≤ 60 * t + a; (first | lia | omega)⟩
theorem RK.get {a t : Int} {f1 e1 f2 e2 : Str → Option Int} {k1 k2 : Str} (h : RK a f1 e1 f2 e2 k1 k2) (h0 : 0 ≤ t) (ha : 0 ≤ a) :
    (sGet f2 e2 (60 * t + a) k2).2.2 = (sGet f1 e1 t k1).2.2 ∧ RK a (sGet f1 e1 t k1).1 (sGet f1 e1 t k1).2.1 (sGet f2 e2 (60 * t + a) k2).1 (sGet f2 e2 (60 * t + a) k2).2.1 k1 k2 := by
  have d := h.due h0 ha
  unfold sGet
  by_cases c : (e1 k1).getD 0 ≤ t
  · rw [if_pos c, if_pos (d ▸ c)]
    exact ⟨by simp [era], ⟨by simp [era], by simp [era]⟩⟩
  · rw [if_neg c, if_neg (d ▸ c)]
    exact ⟨by show (f2 k2).getD 0 = _; rw [h.s], h⟩
theorem sGet_off {f e : Str → Option Int} {now : Int} {k j : Str} (h : j ≠ k) : (sGet f e now k).1 j = f j ∧ (sGet f e now k).2.1 j = e j := by
  unfold sGet
  split
  · exact ⟨if_neg h, if_neg h⟩
  · exact ⟨rfl, rfl⟩
theorem sIncr_off {f e : Str → Option Int} {now x c : Int} {k j : Str} (h : j ≠ k) : (sIncr f e now k x c).1 j = f j ∧ (sIncr f e now k x c).2.1 j = e j := by
  unfold sIncr
  dsimp only
  split
  · exact ⟨(if_neg h).trans (sGet_off h).1, (if_neg h).trans (sGet_off h).2⟩
  · exact ⟨(if_neg h).trans (sGet_off h).1, (sGet_off h).2⟩
theorem RK.off {a : Int} {f1 e1 f2 e2 g1 d1 g2 d2 : Str → Option Int} {k1 k2 : Str} (h : RK a f1 e1 f2 e2 k1 k2) (x1 : g1 k1 = f1 k1 ∧ d1 k1 = e1 k1) (x2 : g2 k2 = f2 k2 ∧ d2 k2 = e2 k2) : RK a g1 d1 g2 d2 k1 k2 :=
  ⟨by rw [x1.1, x2.1, h.s], by rw [x1.2, x2.2, h.e]⟩
theorem RK.incr {a t x c : Int} {f1 e1 f2 e2 : Str → Option Int} {k1 k2 : Str} (h : RK a f1 e1 f2 e2 k1 k2) (h0 : 0 ≤ t) (ha : 0 ≤ a) :
    (sIncr f2 e2 (60 * t + a) k2 (60 * x) c).2.2 = (sIncr f1 e1 t k1 x c).2.2 ∧ RK a (sIncr f1 e1 t k1 x c).1 (sIncr f1 e1 t k1 x c).2.1 (sIncr f2 e2 (60 * t + a) k2 (60 * x) c).1 (sIncr f2 e2 (60 * t + a) k2 (60 * x) c).2.1 k1 k2 := by
  obtain ⟨v, r⟩ := h.get h0 ha
  unfold sIncr
  dsimp only
  have e : ((sGet f2 e2 (60 * t + a) k2).1 k2).getD 0 = ((sGet f1 e1 t k1).1 k1).getD 0 := by rw [r.s]
  rw [e]
  split
  · refine ⟨by simp [upd], ⟨by simp [upd], ?_⟩⟩
    simp only [upd, if_true, Option.map_some, Option.some.injEq]
    (first | lia | omega)
  · exact ⟨by simp [upd], ⟨by simp [upd], r.e⟩⟩
theorem RK.pt {t L x : Int} {f1 e1 f2 e2 : Str → Option Int} {k1 k2 : Str} (hL : 0 < L) (h : iPc f2 e2 (60 * t + 60 * L * (1 + x)) k2 = iPc f1 e1 t k1) : iPt f2 e2 (60 * t + 60 * L * (1 + x)) k2 (60 * L) = 60 * iPt f1 e1 t k1 L := by
  unfold iPt
  rw [h]
  split
  · rfl
  · rw [show 60 * t + 60 * L * (1 + x) - 60 * L = 60 * (t - L) + 60 * L * (1 + x) by rw [Int.mul_sub]; (first | lia | omega), sh_fmod hL, Int.mul_sub]
theorem w60 {p q L : Int} (hL : 0 < L) : (p * (60 * q)).fdiv (60 * L) = (p * q).fdiv L := by
  have h60 : 0 < 60 * L := by (first | lia | omega)
  rw [Int.fdiv_eq_ediv_of_nonneg _ (Int.le_of_lt h60), Int.fdiv_eq_ediv_of_nonneg _ (Int.le_of_lt hL), show p * (60 * q) = 60 * (p * q) by rw [← Int.mul_assoc, Int.mul_comm p 60, Int.mul_assoc], Int.mul_ediv_mul_of_pos _ _ (by decide)]
theorem RK.info {t L x : Int} {f1 e1 f2 e2 : Str → Option Int} {p1 p2 c1 c2 : Str} (hL : 0 < L) (h0 : 0 ≤ t) (ha : 0 ≤ 60 * L * (1 + x)) (hp : RK (60 * L * (1 + x)) f1 e1 f2 e2 p1 p2) (hc : RK (60 * L * (1 + x)) f1 e1 f2 e2 c1 c2) (n1 : c1 ≠ p1) (n2 : c2 ≠ p2) :
    iPc f2 e2 (60 * t + 60 * L * (1 + x)) p2 = iPc f1 e1 t p1 ∧ iCc f2 e2 (60 * t + 60 * L * (1 + x)) p2 c2 = iCc f1 e1 t p1 c1 ∧ iW f2 e2 (60 * t + 60 * L * (1 + x)) p2 c2 (60 * L) = iW f1 e1 t p1 c1 L ∧
    RK (60 * L * (1 + x)) (sInfo f1 e1 t p1 c1).1 (sInfo f1 e1 t p1 c1).2 (sInfo f2 e2 (60 * t + 60 * L * (1 + x)) p2 c2).1 (sInfo f2 e2 (60 * t + 60 * L * (1 + x)) p2 c2).2 c1 c2 ∧
    RK (60 * L * (1 + x)) (sInfo f1 e1 t p1 c1).1 (sInfo f1 e1 t p1 c1).2 (sInfo f2 e2 (60 * t + 60 * L * (1 + x)) p2 c2).1 (sInfo f2 e2 (60 * t + 60 * L * (1 + x)) p2 c2).2 p1 p2 := by
  obtain ⟨vp, rp⟩ := hp.get h0 ha
  have hc' := hc.off (sGet_off (f := f1) (e := e1) (now := t) n1) (sGet_off (f := f2) (e := e2) (now := 60 * t + 60 * L * (1 + x)) n2)
  obtain ⟨vc, rc⟩ := hc'.get h0 ha
  have ep : iPc f2 e2 (60 * t + 60 * L * (1 + x)) p2 = iPc f1 e1 t p1 := vp
  have ec : iCc f2 e2 (60 * t + 60 * L * (1 + x)) p2 c2 = iCc f1 e1 t p1 c1 := vc
  refine ⟨ep, ec, ?_, rc, rp.off (sGet_off (Ne.symm n1)) (sGet_off (Ne.symm n2))⟩
  unfold iW
  rw [ep, ec, RK.pt hL ep, w60 hL]
theorem RK.acqsw {t L x li am : Int} {f1 e1 f2 e2 : Str → Option Int} {p1 p2 c1 c2 : Str} (hL : 0 < L) (h0 : 0 ≤ t) (ha : 0 ≤ 60 * L * (1 + x)) (hp : RK (60 * L * (1 + x)) f1 e1 f2 e2 p1 p2) (hc : RK (60 * L * (1 + x)) f1 e1 f2 e2 c1 c2) (n1 : c1 ≠ p1) (n2 : c2 ≠ p2) :
    (sAcqSw f2 e2 (60 * t + 60 * L * (1 + x)) p2 c2 li (60 * L) am).2.2 = (sAcqSw f1 e1 t p1 c1 li L am).2.2 ∧
    RK (60 * L * (1 + x)) (sAcqSw f1 e1 t p1 c1 li L am).1 (sAcqSw f1 e1 t p1 c1 li L am).2.1 (sAcqSw f2 e2 (60 * t + 60 * L * (1 + x)) p2 c2 li (60 * L) am).1 (sAcqSw f2 e2 (60 * t + 60 * L * (1 + x)) p2 c2 li (60 * L) am).2.1 c1 c2 ∧
    RK (60 * L * (1 + x)) (sAcqSw f1 e1 t p1 c1 li L am).1 (sAcqSw f1 e1 t p1 c1 li L am).2.1 (sAcqSw f2 e2 (60 * t + 60 * L * (1 + x)) p2 c2 li (60 * L) am).1 (sAcqSw f2 e2 (60 * t + 60 * L * (1 + x)) p2 c2 li (60 * L) am).2.1 p1 p2 := by
  obtain ⟨_, _, ew, rc, rp⟩ := RK.info hL h0 ha hp hc n1 n2
  unfold sAcqSw
  rw [ew]
  by_cases q1 : li < am
  · rw [if_pos q1, if_pos q1]; exact ⟨rfl, hc, hp⟩
  · rw [if_neg q1, if_neg q1]
    by_cases q2 : li < iW f1 e1 t p1 c1 L + am
    · rw [if_pos q2, if_pos q2]; exact ⟨rfl, rc, rp⟩
    · rw [if_neg q2, if_neg q2, show 2 * (60 * L) = 60 * (2 * L) by (first | lia | omega)]
      obtain ⟨_, r⟩ := rc.incr (x := 2 * L) (c := am) h0 ha
      exact ⟨rfl, r, rp.off (sIncr_off (Ne.symm n1)) (sIncr_off (Ne.symm n2))⟩
structure RV (a : Int) (v1 v2 : Str → Option (List (Int × Int))) (k1 k2 : Str) : Prop where
  v : v2 k2 = (v1 k1).map fun es => es.map fun q => (60 * q.1 + a, 60 * q.2 + a)
theorem RV.acq {a t L li am : Int} {v1 v2 : Str → Option (List (Int × Int))} {k1 k2 : Str} (h : RV a v1 v2 k1 k2) :
    (sAcq v2 (60 * t + a) k2 li (60 * L) am).2 = (sAcq v1 t k1 li L am).2 ∧ RV a (sAcq v1 t k1 li L am).1 (sAcq v2 (60 * t + a) k2 li (60 * L) am).1 k1 k2 := by
  have eg : (v2 k2).getD [] = ((v1 k1).getD []).map fun q => (60 * q.1 + a, 60 * q.2 + a) := by
    rw [h.v]; cases v1 k1 <;> rfl
  have ea : sAcqAt ((v2 k2).getD []) (60 * t + a) li (60 * L) am = sAcqAt ((v1 k1).getD []) t li L am := by
    unfold sAcqAt
    rw [eg, List.getElem?_map]
    cases ((v1 k1).getD [])[(li - am).toNat]? with
    | none => rfl
    | some q =>
      show decide (60 * t + a - 60 * L ≤ 60 * q.1 + a) = decide (t - L ≤ q.1)
      exact decide_eq_decide.mpr ⟨fun z => by (first | lia | omega), fun z => by (first | lia | omega)⟩
  unfold sAcq
  rw [ea]
  by_cases q1 : li < am
  · rw [if_pos q1, if_pos q1]; exact ⟨rfl, h⟩
  · rw [if_neg q1, if_neg q1]
    split
    · exact ⟨rfl, ⟨by simp only [upd, if_true, Option.map_some]; rw [eg]⟩⟩
    · refine ⟨rfl, ⟨?_⟩⟩
      simp only [upd, if_true, Option.map_some, Option.some.injEq]
      rw [eg, List.map_append, List.map_replicate]
      congr 2
      exact Prod.ext rfl (by show 60 * t + a + 60 * L = 60 * (t + L) + a; (first | lia | omega))
theorem map_getD60 {a : Int} {es : List (Int × Int)} {f : Int × Int → Int} {g : Int × Int → Int} (hfg : ∀ q : Int × Int, f (60 * q.1 + a, 60 * q.2 + a) = 60 * g q - a) {i : Nat} (h : i < es.length) :
    (((es.map fun q => (60 * q.1 + a, 60 * q.2 + a)).map f).getD i 0) = 60 * ((es.map g).getD i 0) - a := by
  simp only [List.getD_eq_getElem?_getD, List.getElem?_map, List.getElem?_eq_getElem h, Option.map_some, Option.getD_some]
  exact hfg _
theorem RV.gmw {a t L : Int} {v1 v2 : Str → Option (List (Int × Int))} {k1 k2 : Str} (h : RV a v1 v2 k1 k2) :
    (sGmw v2 (60 * t + a) k2 (60 * L)).1 = 60 * (sGmw v1 t k1 L).1 + a ∧ (sGmw v2 (60 * t + a) k2 (60 * L)).2 = (sGmw v1 t k1 L).2 := by
  unfold sGmw
  rw [h.v]
  cases v1 k1 with
  | none => exact ⟨rfl, rfl⟩
  | some es =>
    simp only [Option.map_some, List.length_map]
    by_cases h0 : es.length = 0
    · rw [if_pos h0, if_pos h0]; exact ⟨rfl, rfl⟩
    · rw [if_neg h0, if_neg h0]
      have eb : bis (fun i => decide (((es.map fun q => (60 * q.1 + a, 60 * q.2 + a)).map fun q => -q.1).getD i 0 < -(60 * t + a - 60 * L))) es.length 0 es.length = bis (fun i => decide ((es.map fun q => -q.1).getD i 0 < -(t - L))) es.length 0 es.length :=
        bis_congr _ _ _ fun i hi => by
          have e := map_getD60 (a := a) (es := es) (f := fun q => -q.1) (g := fun q => -q.1) (fun q => by dsimp only; (first | lia | omega)) hi
          rw [e]
          exact decide_eq_decide.mpr ⟨fun z => by (first | lia | omega), fun z => by (first | lia | omega)⟩
      dsimp only
      rw [eb]
      have hle := (bis_le (fun i => decide ((es.map fun q => -q.1).getD i 0 < -(t - L))) es.length 0 es.length (Nat.zero_le _)).2
      generalize bis (fun i => decide ((es.map fun q => -q.1).getD i 0 < -(t - L))) es.length 0 es.length = r at *
      have hidx : (if r = 0 then es.length - 1 else r - 1) < es.length := by split <;> (first | lia | omega)
      generalize (if r = 0 then es.length - 1 else r - 1) = j at *
      refine ⟨?_, rfl⟩
      simp only [List.getD_eq_getElem?_getD, List.getElem?_map, List.getElem?_eq_getElem hidx, Option.map_some, Option.getD_some]
theorem RK.sweep {a t : Int} {σ1 σ2 : St} {k1 k2 : Str} (h : RK a σ1.fs σ1.fe σ2.fs σ2.fe k1 k2) : RK a (sSweep σ1 t).fs (sSweep σ1 t).fe (sSweep σ2 (60 * t + a)).fs (sSweep σ2 (60 * t + a)).fe k1 k2 := by
  constructor
  · simp only [sSweep]
    rw [h.e, h.s]
    cases σ1.fe k1 with
    | none => rfl
    | some y =>
      simp only [Option.map_some]
      by_cases c : y ≤ t
      · rw [if_pos c, if_pos (by (first | lia | omega))]
      · rw [if_neg c, if_neg (by (first | lia | omega))]
  · simp only [sSweep]
    rw [h.e]
    cases σ1.fe k1 with
    | none => rfl
    | some y =>
      simp only [Option.map_some]
      by_cases c : y ≤ t
      · rw [if_pos c, if_pos (by (first | lia | omega))]; rfl
      · rw [if_neg c, if_neg (by (first | lia | omega))]; rfl
theorem swp1_map {a t : Int} (es : List (Int × Int)) : swp1 (60 * t + a) (es.map fun q => (60 * q.1 + a, 60 * q.2 + a)) = (swp1 t es).map fun q => (60 * q.1 + a, 60 * q.2 + a) := by
  unfold swp1
  rw [List.length_map]
  by_cases h0 : es.length = 0
  · rw [if_pos h0, if_pos h0]
  · rw [if_neg h0, if_neg h0]
    have eb : bis (fun i => decide (((es.map fun q => (60 * q.1 + a, 60 * q.2 + a)).map fun q => -q.2).getD i 0 < -(60 * t + a))) es.length 0 es.length = bis (fun i => decide ((es.map fun q => -q.2).getD i 0 < -t)) es.length 0 es.length :=
      bis_congr _ _ _ fun i hi => by
        have e := map_getD60 (a := a) (es := es) (f := fun q => -q.2) (g := fun q => -q.2) (fun q => by dsimp only; (first | lia | omega)) hi
        rw [e]
        exact decide_eq_decide.mpr ⟨fun z => by (first | lia | omega), fun z => by (first | lia | omega)⟩
    rw [eb, List.map_take]
theorem RV.sweep {a t : Int} {σ1 σ2 : St} {k1 k2 : Str} (h : RV a σ1.fv σ2.fv k1 k2) : RV a (sSweep σ1 t).fv (sSweep σ2 (60 * t + a)).fv k1 k2 := by
  constructor
  simp only [sSweep]
  rw [h.v]
  cases σ1.fv k1 with
  | none => rfl
  | some es => simp only [Option.map_some, swp1_map]
theorem RK.era {a : Int} {f1 e1 f2 e2 : Str → Option Int} {k1 k2 : Str} : RK a (Mine.era f1 k1) (Mine.era e1 k1) (Mine.era f2 k2) (Mine.era e2 k2) k1 k2 := ⟨by simp [Mine.era], by simp [Mine.era]⟩
theorem RV.era {a : Int} {v1 v2 : Str → Option (List (Int × Int))} {k1 k2 : Str} : RV a (Mine.era v1 k1) (Mine.era v2 k2) k1 k2 := ⟨by simp [Mine.era]⟩
theorem era_off {α : Type} {f : Str → Option α} {k j : Str} (h : j ≠ k) : era f k j = f j := if_neg h
theorem f60 {y L : Int} (hL : 0 < L) : (60 * y).fmod (60 * L) = 60 * y.fmod L := by
  have h60 : 0 < 60 * L := by (first | lia | omega)
  rw [Int.fmod_eq_emod_of_nonneg _ (Int.le_of_lt h60), Int.fmod_eq_emod_of_nonneg _ (Int.le_of_lt hL), Int.mul_emod_mul_of_pos _ _ (by decide)]
theorem ct60 {t L x : Int} (hL : 0 < L) : iCt (60 * t + 60 * L * (1 + x)) (60 * L) = 60 * iCt t L := by
  unfold iCt
  rw [sh_fmod hL, Int.mul_add, Int.mul_sub]
theorem f60m {y z L : Int} (hL : 0 < L) : (60 * y * z).fmod (60 * L) = 60 * (y * z).fmod L := by rw [Int.mul_assoc, f60 hL]
theorem min60 (a b : Int) : min (60 * a) (60 * b) = 60 * min a b := by (first | lia | omega)
theorem reset2_rel {σ1 σ2 : St} {t L x am : Int} {k1 k2 : Str} (hL : 0 < L) (hp : iPc σ2.fs σ2.fe (60 * t + 60 * L * (1 + x)) (kP k2 (60 * t + 60 * L * (1 + x)) (60 * L)) = iPc σ1.fs σ1.fe t (kP k1 t L))
    (hc : iCc σ2.fs σ2.fe (60 * t + 60 * L * (1 + x)) (kP k2 (60 * t + 60 * L * (1 + x)) (60 * L)) (kC k2 (60 * t + 60 * L * (1 + x)) (60 * L)) = iCc σ1.fs σ1.fe t (kP k1 t L) (kC k1 t L)) :
    (reset2 σ2 (60 * t + 60 * L * (1 + x)) k2 am (60 * L)).2 = (reset2 σ1 t k1 am L).2 ∧ (reset2 σ2 (60 * t + 60 * L * (1 + x)) k2 am (60 * L)).1 = 60 * (reset2 σ1 t k1 am L).1 + 60 * L * (1 + x) * (reset2 σ1 t k1 am L).2 := by
  have hpt := RK.pt (x := x) hL hp
  by_cases c1 : iPc σ1.fs σ1.fe t (kP k1 t L) = 0 <;> by_cases c2 : iCc σ1.fs σ1.fe t (kP k1 t L) (kC k1 t L) = 0
  · rw [reset2_D (by rw [hp, c1]) (by rw [hc, c2]), reset2_D c1 c2]
    exact ⟨rfl, by dsimp only; (first | lia | omega)⟩
  · rw [reset2_C (by rw [hp, c1]) (by rw [hc]; exact c2), reset2_C c1 c2, ct60 hL, f60 hL]
    exact ⟨rfl, by dsimp only; (first | lia | omega)⟩
  · rw [reset2_B (by rw [hp]; exact c1) (by rw [hc, c2]), reset2_B c1 c2, hpt, hp, f60m hL]
    refine ⟨rfl, ?_⟩
    dsimp only
    rw [Int.add_mul, Int.mul_assoc 60 t, Int.mul_add]
    (first | lia | omega)
  · rw [reset2_A (by rw [hp]; exact c1) (by rw [hc]; exact c2), reset2_A c1 c2, hpt, hp, f60m hL, ct60 hL, f60 hL, Int.mul_assoc 60 ((iCt t L).fmod L), min60]
    refine ⟨rfl, ?_⟩
    dsimp only
    rw [Int.add_mul, Int.mul_assoc 60 t, Int.mul_add]
    (first | lia | omega)

theorem Str.app_inj {a b c : Str} (h : a ++ b = a ++ c) : b = c := by
  have h' := congrArg (fun s : Str => s.cps.toList) h
  have e : ∀ x y : Str, (x ++ y).cps.toList = x.cps.toList ++ y.cps.toList := fun x y => Array.toList_append
  simp only [e, List.append_cancel_left_eq] at h'
  cases b; cases c
  exact congrArg Str.mk (Array.toList_inj.mp h')
theorem dig_inj {i j : Int} (h : dig i = dig j) : i = j := by
  unfold dig at h
  rw [Str.ofString_eq_byList] at h
  unfold Str.ofStringByList at h
  have h1 : ((toString i).toList.map Char.toNat) = ((toString j).toList.map Char.toNat) := congrArg (fun s : Str => s.cps.toList) h
  have h2 := List.map_inj_right (fun a b e => Char.toNat_inj.mp e) |>.mp h1
  exact Int.repr_inj.mp (String.toList_inj.mp h2)
theorem slk_inj {k : Str} {i j : Int} (h : slk k i = slk k j) : i = j := dig_inj (Str.app_inj (a := Str.empty ++ k ++ Str.ofString "/") h)
theorem slk_self {k : Str} {i : Int} : slk k i ≠ k := fun h => by
  have := congrArg Str.length h
  unfold slk at this
  simp only [Str.length_append, Str.empty_append, slk_one] at this
  (first | lia | omega)
structure Dif (a b : Str) : Prop where
  ex : ∃ p x y : Nat, a.cps[p]? = some x ∧ b.cps[p]? = some y ∧ x ≠ y
theorem Dif.symm {a b : Str} (h : Dif a b) : Dif b a := let ⟨p, x, y, e1, e2, n⟩ := h.ex; ⟨⟨p, y, x, e2, e1, fun e => n e.symm⟩⟩
theorem Dif.ne {a b : Str} (h : Dif a b) : a ≠ b := fun e => by
  obtain ⟨p, x, y, e1, e2, n⟩ := h.ex
  rw [e, e2] at e1; exact n (Option.some.inj e1).symm
theorem cps_more {a b : Str} {p x : Nat} (h : a.cps[p]? = some x) : (a ++ b).cps[p]? = some x := by
  have hl : p < a.cps.size := by
    rcases Nat.lt_or_ge p a.cps.size with q | q
    · exact q
    · rw [Array.getElem?_eq_none q] at h; cases h
  show (a.cps ++ b.cps)[p]? = some x
  rw [Array.getElem?_append_left hl]; exact h
theorem slk_at {k : Str} {i : Int} {p x : Nat} (h : k.cps[p]? = some x) : (slk k i).cps[p]? = some x := by
  unfold slk
  rw [Str.empty_append]
  exact cps_more (cps_more h)
theorem Dif.l {a b : Str} (h : Dif a b) (i : Int) : Dif (slk a i) b := let ⟨p, x, y, e1, e2, n⟩ := h.ex; ⟨⟨p, x, y, slk_at e1, e2, n⟩⟩
theorem Dif.r {a b : Str} (h : Dif a b) (i : Int) : Dif a (slk b i) := (h.symm.l i).symm
noncomputable def Tch (k j : Str) : Prop := j = k ∨ ∃ i : Int, j = slk k i
structure Off (k : Str) (σ σ' : St) : Prop where
  s : ∀ j, ¬ Tch k j → σ'.fs j = σ.fs j
  e : ∀ j, ¬ Tch k j → σ'.fe j = σ.fe j
  v : ∀ j, ¬ Tch k j → σ'.fv j = σ.fv j
theorem Dif.off {k j : Str} (h : Dif k j) : ¬ Tch k j ∧ ∀ i, ¬ Tch k (slk j i) :=
  ⟨fun z => z.elim (fun e => h.ne e.symm) fun ⟨i, e⟩ => (h.l i).ne e.symm, fun i z => z.elim (fun e => (h.r i).ne e.symm) fun ⟨i', e⟩ => ((h.r i).l i').ne e.symm⟩
theorem Off.refl {k : Str} {σ : St} : Off k σ σ := ⟨fun _ _ => rfl, fun _ _ => rfl, fun _ _ => rfl⟩
theorem Off.trans {k : Str} {σ σ' σ'' : St} (a : Off k σ σ') (b : Off k σ' σ'') : Off k σ σ'' := ⟨fun j h => (b.s j h).trans (a.s j h), fun j h => (b.e j h).trans (a.e j h), fun j h => (b.v j h).trans (a.v j h)⟩
theorem off_get {σ : St} {now : Int} {k x : Str} (h : Tch k x) : Off k σ (sGetS σ now x) :=
  ⟨fun j hj => (sGet_off fun e : j = x => hj (e ▸ h)).1, fun j hj => (sGet_off fun e : j = x => hj (e ▸ h)).2, fun _ _ => rfl⟩
theorem off_info {σ : St} {now : Int} {k x y : Str} (h : Tch k x) (h2 : Tch k y) : Off k σ (sInfoS σ now x y) := (off_get (σ := σ) (now := now) h).trans (off_get (σ := sGetS σ now x) (now := now) h2)
theorem off_incr {σ : St} {now e c : Int} {k x : Str} (h : Tch k x) : Off k σ ⟨(sIncr σ.fs σ.fe now x e c).1, (sIncr σ.fs σ.fe now x e c).2.1, σ.fv⟩ :=
  ⟨fun j hj => (sIncr_off fun e : j = x => hj (e ▸ h)).1, fun j hj => (sIncr_off fun e : j = x => hj (e ▸ h)).2, fun _ _ => rfl⟩
theorem off_clr {σ : St} {k x : Str} (h : Tch k x) : Off k σ (sClr σ x) :=
  ⟨fun j hj => era_off fun e : j = x => hj (e ▸ h), fun j hj => era_off fun e : j = x => hj (e ▸ h), fun j hj => era_off fun e : j = x => hj (e ▸ h)⟩
theorem off_acq {σ : St} {now li ex a : Int} {k : Str} : Off k σ (hit1S σ now k li ex a) := ⟨fun _ _ => rfl, fun _ _ => rfl, fun j hj => by
  have hne : j ≠ k := fun e => hj (.inl e)
  show (sAcq σ.fv now k li ex a).1 j = σ.fv j
  unfold sAcq
  split
  · rfl
  · split
    · exact if_neg hne
    · exact if_neg hne⟩
theorem off_acqsw {σ : St} {now li ex a : Int} {k : Str} : Off k σ (hit2S σ now k li ex a) := by
  have hp : Tch k (kP k now ex) := .inr ⟨_, rfl⟩
  have hc : Tch k (kC k now ex) := .inr ⟨_, rfl⟩
  unfold hit2S sAcqSw
  split
  · exact Off.refl
  · split
    · exact off_info hp hc
    · exact (off_info (now := now) hp hc).trans (off_incr (σ := sInfoS σ now (kP k now ex) (kC k now ex)) hc)
theorem kIf_cases {α : Type} {P : α → Prop} {kind : Int} {a b c : α} (ha : P a) (hb : P b) (hc : P c) : P (kIf kind a b c) := by
  unfold kIf; split
  · exact ha
  · split
    · exact hb
    · exact hc
theorem off_test {kind now li ex a : Int} {σ : St} {k : Str} : Off k σ (sTestK kind σ now k li ex a) := by
  unfold sTestK
  exact kIf_cases (P := fun f : St → Int → Str → Int → Int → Int → St => Off k σ (f σ now k li ex a)) (off_get (.inl rfl)) Off.refl (off_info (.inr ⟨_, rfl⟩) (.inr ⟨_, rfl⟩))
theorem off_hit {kind now li ex a : Int} {σ : St} {k : Str} : Off k σ (sHitK kind σ now k li ex a) := by
  unfold sHitK
  exact kIf_cases (P := fun f : St → Int → Str → Int → Int → Int → St => Off k σ (f σ now k li ex a)) (off_incr (.inl rfl)) off_acq off_acqsw
theorem off_clear {kind now li ex a : Int} {σ : St} {k : Str} : Off k σ (sClearK kind σ now k li ex a) := by
  unfold sClearK
  exact kIf_cases (P := fun f : St → Int → Str → Int → Int → Int → St => Off k σ (f σ now k li ex a)) (off_clr (.inl rfl)) (off_clr (.inl rfl)) ((off_clr (.inr ⟨_, rfl⟩)).trans (off_clr (.inr ⟨_, rfl⟩)))
structure RP (L x : Int) (σ1 σ2 : St) (k1 k2 : Str) : Prop where
  b : RK (60 * L * (1 + x)) σ1.fs σ1.fe σ2.fs σ2.fe k1 k2
  v : RV (60 * L * (1 + x)) σ1.fv σ2.fv k1 k2
  w : ∀ i : Int, RK (60 * L * (1 + x)) σ1.fs σ1.fe σ2.fs σ2.fe (slk k1 i) (slk k2 (i + (1 + x)))
section
variable {L x t am c : Int} {σ1 σ2 τ1 τ2 : St} {k1 k2 j1 j2 : Str} {kind : Int}
theorem RP.off (R : RP L x σ1 σ2 k1 k2) (o1 : Off j1 σ1 τ1) (o2 : Off j2 σ2 τ2) (d1 : Dif j1 k1) (d2 : Dif j2 k2) : RP L x τ1 τ2 k1 k2 :=
  ⟨R.b.off ⟨o1.s _ d1.off.1, o1.e _ d1.off.1⟩ ⟨o2.s _ d2.off.1, o2.e _ d2.off.1⟩, ⟨by rw [o1.v _ d1.off.1, o2.v _ d2.off.1, R.v.v]⟩,
    fun i => (R.w i).off ⟨o1.s _ (d1.off.2 _), o1.e _ (d1.off.2 _)⟩ ⟨o2.s _ (d2.off.2 _), o2.e _ (d2.off.2 _)⟩⟩
theorem RP.off2 (R : RP L x σ1 σ2 k1 k2) (o2 : Off j2 σ2 τ2) (d2 : Dif j2 k2) : RP L x σ1 τ2 k1 k2 :=
  ⟨R.b.off ⟨rfl, rfl⟩ ⟨o2.s _ d2.off.1, o2.e _ d2.off.1⟩, ⟨by rw [o2.v _ d2.off.1, R.v.v]⟩, fun i => (R.w i).off ⟨rfl, rfl⟩ ⟨o2.s _ (d2.off.2 _), o2.e _ (d2.off.2 _)⟩⟩
theorem kP_sh (hL : 0 < L) : kP k2 (60 * t + 60 * L * (1 + x)) (60 * L) = slk k2 ((t - L).fdiv L + (1 + x)) := by
  unfold kP
  rw [show 60 * t + 60 * L * (1 + x) - 60 * L = 60 * (t - L) + 60 * L * (1 + x) by rw [Int.mul_sub]; (first | lia | omega), sh_fdiv hL]
theorem kC_sh (hL : 0 < L) : kC k2 (60 * t + 60 * L * (1 + x)) (60 * L) = slk k2 (t.fdiv L + (1 + x)) := by
  unfold kC
  rw [sh_fdiv hL]
theorem kPC (hL : 0 < L) : (t - L).fdiv L ≠ t.fdiv L := by
  rw [Int.fdiv_eq_ediv_of_nonneg _ (Int.le_of_lt hL), Int.fdiv_eq_ediv_of_nonneg _ (Int.le_of_lt hL)]
  rw [show t - L = t + (-1) * L by (first | lia | omega), Int.add_mul_ediv_right _ _ (Int.ne_of_gt hL)]
  (first | lia | omega)
theorem RP.wins (R : RP L x σ1 σ2 k1 k2) (hL : 0 < L) : RK (60 * L * (1 + x)) σ1.fs σ1.fe σ2.fs σ2.fe (kP k1 t L) (kP k2 (60 * t + 60 * L * (1 + x)) (60 * L)) ∧ RK (60 * L * (1 + x)) σ1.fs σ1.fe σ2.fs σ2.fe (kC k1 t L) (kC k2 (60 * t + 60 * L * (1 + x)) (60 * L)) ∧
    kC k1 t L ≠ kP k1 t L ∧ kC k2 (60 * t + 60 * L * (1 + x)) (60 * L) ≠ kP k2 (60 * t + 60 * L * (1 + x)) (60 * L) := by
  rw [kP_sh hL, kC_sh hL]
  exact ⟨R.w _, R.w _, fun e => kPC hL (slk_inj e).symm, fun e => kPC (t := t) hL (by have := slk_inj e; (first | lia | omega))⟩
theorem RP.sl (R : RP L x σ1 σ2 k1 k2) {f1 e1 f2 e2 : Str → Option Int} {i j : Int} (q1 : ∀ y, y ≠ slk k1 i → y ≠ slk k1 j → f1 y = σ1.fs y ∧ e1 y = σ1.fe y) (q2 : ∀ y, y ≠ slk k2 (i + (1 + x)) → y ≠ slk k2 (j + (1 + x)) → f2 y = σ2.fs y ∧ e2 y = σ2.fe y)
    (ri : RK (60 * L * (1 + x)) f1 e1 f2 e2 (slk k1 i) (slk k2 (i + (1 + x)))) (rj : RK (60 * L * (1 + x)) f1 e1 f2 e2 (slk k1 j) (slk k2 (j + (1 + x)))) : RP L x ⟨f1, e1, σ1.fv⟩ ⟨f2, e2, σ2.fv⟩ k1 k2 := by
  refine ⟨R.b.off (q1 _ (Ne.symm slk_self) (Ne.symm slk_self)) (q2 _ (Ne.symm slk_self) (Ne.symm slk_self)), R.v, fun n => ?_⟩
  by_cases h1 : n = i
  · subst h1; exact ri
  · by_cases h2 : n = j
    · subst h2; exact rj
    · exact (R.w n).off (q1 _ (fun e => h1 (slk_inj e)) fun e => h2 (slk_inj e)) (q2 _ (fun e => h1 (by have := slk_inj e; (first | lia | omega))) fun e => h2 (by have := slk_inj e; (first | lia | omega)))
theorem RP.base (R : RP L x σ1 σ2 k1 k2) {f1 e1 f2 e2 : Str → Option Int} (q1 : ∀ y, y ≠ k1 → f1 y = σ1.fs y ∧ e1 y = σ1.fe y) (q2 : ∀ y, y ≠ k2 → f2 y = σ2.fs y ∧ e2 y = σ2.fe y) (r : RK (60 * L * (1 + x)) f1 e1 f2 e2 k1 k2) : RP L x ⟨f1, e1, σ1.fv⟩ ⟨f2, e2, σ2.fv⟩ k1 k2 :=
  ⟨r, R.v, fun i => (R.w i).off (q1 _ slk_self) (q2 _ slk_self)⟩
end

section
variable {L x t am c c' : Int} {σ1 σ2 τ1 τ2 : St} {k1 k2 j1 j2 : Str} {kind : Int}
theorem K0 {α : Type} {a b c : α} : kIf 0 a b c = a := rfl
theorem K1 {α : Type} {a b c : α} : kIf 1 a b c = b := rfl
theorem K2 {α : Type} {a b c : α} : kIf 2 a b c = c := rfl
theorem a_nonneg (hL : 0 < L) (hx : 0 ≤ x) : 0 ≤ 60 * L * (1 + x) := Int.mul_nonneg (by (first | lia | omega)) (by (first | lia | omega))
theorem sInfo_offs {f e : Str → Option Int} {now : Int} {p q y : Str} (h1 : y ≠ p) (h2 : y ≠ q) : (sInfo f e now p q).1 y = f y ∧ (sInfo f e now p q).2 y = e y :=
  ⟨((sGet_off h2).1).trans (sGet_off h1).1, ((sGet_off h2).2).trans (sGet_off h1).2⟩
theorem sAcqSw_offs {f e : Str → Option Int} {now li ex a : Int} {p q y : Str} (h1 : y ≠ p) (h2 : y ≠ q) : (sAcqSw f e now p q li ex a).1 y = f y ∧ (sAcqSw f e now p q li ex a).2.1 y = e y := by
  unfold sAcqSw
  split
  · exact ⟨rfl, rfl⟩
  · split
    · exact sInfo_offs h1 h2
    · exact ⟨(sIncr_off h2).1.trans (sInfo_offs h1 h2).1, (sIncr_off h2).2.trans (sInfo_offs h1 h2).2⟩
theorem rp_get (R : RP L x σ1 σ2 k1 k2) (hL : 0 < L) (h0 : 0 ≤ t) (hx : 0 ≤ x) : (sGet σ2.fs σ2.fe (60 * t + 60 * L * (1 + x)) k2).2.2 = (sGet σ1.fs σ1.fe t k1).2.2 ∧ RP L x (sGetS σ1 t k1) (sGetS σ2 (60 * t + 60 * L * (1 + x)) k2) k1 k2 :=
  have z := R.b.get h0 (a_nonneg hL hx)
  ⟨z.1, R.base (fun _ h => sGet_off h) (fun _ h => sGet_off h) z.2⟩
theorem rp_info (R : RP L x σ1 σ2 k1 k2) (hL : 0 < L) (h0 : 0 ≤ t) (hx : 0 ≤ x) :
    iPc σ2.fs σ2.fe (60 * t + 60 * L * (1 + x)) (kP k2 (60 * t + 60 * L * (1 + x)) (60 * L)) = iPc σ1.fs σ1.fe t (kP k1 t L) ∧
    iCc σ2.fs σ2.fe (60 * t + 60 * L * (1 + x)) (kP k2 (60 * t + 60 * L * (1 + x)) (60 * L)) (kC k2 (60 * t + 60 * L * (1 + x)) (60 * L)) = iCc σ1.fs σ1.fe t (kP k1 t L) (kC k1 t L) ∧
    iW σ2.fs σ2.fe (60 * t + 60 * L * (1 + x)) (kP k2 (60 * t + 60 * L * (1 + x)) (60 * L)) (kC k2 (60 * t + 60 * L * (1 + x)) (60 * L)) (60 * L) = iW σ1.fs σ1.fe t (kP k1 t L) (kC k1 t L) L ∧
    RP L x (sInfoS σ1 t (kP k1 t L) (kC k1 t L)) (sInfoS σ2 (60 * t + 60 * L * (1 + x)) (kP k2 (60 * t + 60 * L * (1 + x)) (60 * L)) (kC k2 (60 * t + 60 * L * (1 + x)) (60 * L))) k1 k2 := by
  obtain ⟨rp, rc, n1, n2⟩ := R.wins (t := t) hL
  obtain ⟨a, b, d, ec, ep⟩ := RK.info hL h0 (a_nonneg hL hx) rp rc n1 n2
  refine ⟨a, b, d, ?_⟩
  rw [kP_sh hL, kC_sh hL] at *
  exact R.sl (fun _ h1 h2 => sInfo_offs h1 h2) (fun _ h1 h2 => sInfo_offs h1 h2) ep ec
theorem rp_test (hkd : kind = 0 ∨ kind = 1 ∨ kind = 2) (R : RP L x σ1 σ2 k1 k2) (hL : 0 < L) (h0 : 0 ≤ t) (hx : 0 ≤ x) :
    rTestK kind σ2 (60 * t + 60 * L * (1 + x)) k2 am (60 * L) c = rTestK kind σ1 t k1 am L c ∧ RP L x (sTestK kind σ1 t k1 am L c') (sTestK kind σ2 (60 * t + 60 * L * (1 + x)) k2 am (60 * L) c') k1 k2 := by
  unfold rTestK sTestK
  rcases hkd with rfl | rfl | rfl
  · obtain ⟨v, r⟩ := rp_get (t := t) R hL h0 hx
    simp only [K0]
    refine ⟨?_, r⟩
    unfold test0R; rw [v]
  · simp only [K1]
    refine ⟨?_, R⟩
    unfold test1R; rw [(R.v.gmw (t := t) (L := L)).2]
  · obtain ⟨_, _, v, r⟩ := rp_info (t := t) R hL h0 hx
    simp only [K2]
    refine ⟨?_, r⟩
    unfold test2R; rw [v]
theorem rp_hit (hkd : kind = 0 ∨ kind = 1 ∨ kind = 2) (R : RP L x σ1 σ2 k1 k2) (hL : 0 < L) (h0 : 0 ≤ t) (hx : 0 ≤ x) :
    rHitK kind σ2 (60 * t + 60 * L * (1 + x)) k2 am (60 * L) c = rHitK kind σ1 t k1 am L c ∧ RP L x (sHitK kind σ1 t k1 am L c) (sHitK kind σ2 (60 * t + 60 * L * (1 + x)) k2 am (60 * L) c) k1 k2 := by
  unfold rHitK sHitK
  rcases hkd with rfl | rfl | rfl
  · obtain ⟨v, r⟩ := R.b.incr (x := L) (c := c) h0 (a_nonneg hL hx)
    simp only [K0]
    refine ⟨?_, R.base (fun _ h => sIncr_off h) (fun _ h => sIncr_off h) r⟩
    unfold hit0R; rw [v]
  · obtain ⟨v, r⟩ := R.v.acq (t := t) (L := L) (li := am) (am := c)
    simp only [K1]
    exact ⟨v, R.b, r, R.w⟩
  · obtain ⟨rp, rc, n1, n2⟩ := R.wins (t := t) hL
    obtain ⟨v, r1, r2⟩ := RK.acqsw (li := am) (am := c) hL h0 (a_nonneg hL hx) rp rc n1 n2
    simp only [K2]
    refine ⟨v, ?_⟩
    unfold hit2S
    rw [kP_sh hL, kC_sh hL] at *
    exact R.sl (fun _ h1 h2 => sAcqSw_offs h1 h2) (fun _ h1 h2 => sAcqSw_offs h1 h2) r2 r1
theorem rp_clear (hkd : kind = 0 ∨ kind = 1 ∨ kind = 2) (R : RP L x σ1 σ2 k1 k2) (hL : 0 < L) :
    RP L x (sClearK kind σ1 t k1 am L c) (sClearK kind σ2 (60 * t + 60 * L * (1 + x)) k2 am (60 * L) c) k1 k2 := by
  unfold sClearK
  have h01 : RP L x (sClr σ1 k1) (sClr σ2 k2) k1 k2 := ⟨RK.era, RV.era, fun i => (R.w i).off ⟨era_off slk_self, era_off slk_self⟩ ⟨era_off slk_self, era_off slk_self⟩⟩
  rcases hkd with rfl | rfl | rfl
  · exact h01
  · exact h01
  · simp only [K2]
    rw [kP_sh hL, kC_sh hL]
    have hne : slk k1 ((t - L).fdiv L) ≠ slk k1 (t.fdiv L) := fun e => kPC hL (slk_inj e)
    have hne2 : slk k2 ((t - L).fdiv L + (1 + x)) ≠ slk k2 (t.fdiv L + (1 + x)) := fun e => kPC (t := t) hL (by have := slk_inj e; (first | lia | omega))
    have z := R.sl (i := (t - L).fdiv L) (j := t.fdiv L) (f1 := era (era σ1.fs (slk k1 ((t - L).fdiv L))) (slk k1 (t.fdiv L))) (e1 := era (era σ1.fe (slk k1 ((t - L).fdiv L))) (slk k1 (t.fdiv L)))
      (f2 := era (era σ2.fs (slk k2 ((t - L).fdiv L + (1 + x)))) (slk k2 (t.fdiv L + (1 + x)))) (e2 := era (era σ2.fe (slk k2 ((t - L).fdiv L + (1 + x)))) (slk k2 (t.fdiv L + (1 + x))))
      (fun _ h1 h2 => ⟨(era_off h2).trans (era_off h1), (era_off h2).trans (era_off h1)⟩) (fun _ h1 h2 => ⟨(era_off h2).trans (era_off h1), (era_off h2).trans (era_off h1)⟩)
      ((RK.era (f1 := σ1.fs) (e1 := σ1.fe) (f2 := σ2.fs) (e2 := σ2.fe)).off ⟨era_off hne, era_off hne⟩ ⟨era_off hne2, era_off hne2⟩) RK.era
    exact ⟨z.b, ⟨by
      show era (era σ2.fv _) _ k2 = (era (era σ1.fv _) _ k1).map _
      rw [era_off (Ne.symm slk_self), era_off (Ne.symm slk_self), era_off (Ne.symm slk_self), era_off (Ne.symm slk_self)]
      exact R.v.v⟩, z.w⟩
theorem rp_sweep (R : RP L x σ1 σ2 k1 k2) : RP L x (sSweep σ1 t) (sSweep σ2 (60 * t + 60 * L * (1 + x))) k1 k2 := ⟨R.b.sweep, R.v.sweep, fun i => (R.w i).sweep⟩
theorem rp_left (hkd : kind = 0 ∨ kind = 1 ∨ kind = 2) (R : RP L x σ1 σ2 k1 k2) (hL : 0 < L) (h0 : 0 ≤ t) (hx : 0 ≤ x) : leftK kind σ2 (60 * t + 60 * L * (1 + x)) k2 am (60 * L) = leftK kind σ1 t k1 am L := by
  unfold leftK
  rcases hkd with rfl | rfl | rfl
  · simp only [K0]; unfold left0; rw [(rp_get (t := t) R hL h0 hx).1]
  · simp only [K1]; unfold left1; rw [(R.v.gmw (t := t) (L := L)).2]
  · simp only [K2]; unfold left2; rw [(rp_info (t := t) R hL h0 hx).2.2.1]
theorem rp_reset (hkd : kind = 0 ∨ kind = 1 ∨ kind = 2) (R : RP L x σ1 σ2 k1 k2) (hL : 0 < L) (h0 : 0 ≤ t) (hx : 0 ≤ x) :
    (resetK kind σ2 (60 * t + 60 * L * (1 + x)) k2 am (60 * L)).2 = (resetK kind σ1 t k1 am L).2 ∧ (resetK kind σ2 (60 * t + 60 * L * (1 + x)) k2 am (60 * L)).1 = 60 * (resetK kind σ1 t k1 am L).1 + 60 * L * (1 + x) * (resetK kind σ1 t k1 am L).2 := by
  unfold resetK
  rcases hkd with rfl | rfl | rfl
  · simp only [K0, true_and, Int.mul_one]
    have z := (rp_get (t := t) R hL h0 hx).2.b.e
    unfold reset0
    rw [show (sGet σ2.fs σ2.fe (60 * t + 60 * L * (1 + x)) k2).2.1 k2 = _ from z]
    show Option.getD (Option.map _ ((sGet σ1.fs σ1.fe t k1).2.1 k1)) _ = _
    cases (sGet σ1.fs σ1.fe t k1).2.1 k1 <;> rfl
  · simp only [K1, true_and, Int.mul_one]
    unfold reset1
    rw [(R.v.gmw (t := t) (L := L)).1]
    (first | lia | omega)
  · simp only [K2]
    obtain ⟨a, b, _, _⟩ := rp_info (t := t) R hL h0 hx
    exact reset2_rel hL a b
theorem reset_pos {n : Nat} (hkd : kind = 0 ∨ kind = 1 ∨ kind = 2) (B : Bd σ1 n) : 1 ≤ (resetK kind σ1 t k1 am L).2 := by
  unfold resetK
  rcases hkd with rfl | rfl | rfl
  · exact Int.le_refl 1
  · exact Int.le_refl 1
  · simp only [K2]
    have := B.pc (fe := σ1.fe) (now := t) (k := kP k1 t L)
    unfold reset2
    dsimp only
    by_cases h : iPc σ1.fs σ1.fe t (kP k1 t L) = 0
    · rw [if_pos h]; split <;> exact Int.le_refl 1
    · rw [if_neg h]; show 1 ≤ iPc σ1.fs σ1.fe t (kP k1 t L); (first | lia | omega)
theorem rp_step {deed : Int} (hkd : kind = 0 ∨ kind = 1 ∨ kind = 2) (R : RP L x σ1 σ2 k1 k2) (hL : 0 < L) (h0 : 0 ≤ t) (hx : 0 ≤ x) :
    vStep deed kind σ2 (60 * t + 60 * L * (1 + x)) k2 am (60 * L) c = vStep deed kind σ1 t k1 am L c ∧ RP L x (sStep deed kind σ1 t k1 am L c) (sStep deed kind σ2 (60 * t + 60 * L * (1 + x)) k2 am (60 * L) c) k1 k2 := by
  unfold vStep sStep
  obtain ⟨v1, r1⟩ := rp_test (am := am) (c := c) (c' := c) hkd R hL h0 hx
  obtain ⟨v2, r2⟩ := rp_hit (am := am) (c := c) hkd R hL h0 hx
  rw [v1, v2]
  refine ⟨rfl, ?_⟩
  split
  · exact r1
  · split
    · exact rp_clear hkd R hL
    · split
      · exact rp_sweep R
      · exact r2
theorem off_step {deed ex : Int} (h2 : deed ≠ 2) : Off k1 σ1 (sStep deed kind σ1 t k1 am ex c) := by
  unfold sStep
  split
  · exact off_test
  · split
    · exact off_clear
    · exact off_hit
end

noncomputable def mineN (n : Int) : List Str := if n = 0 then ["a"] else ["a", "b"]
noncomputable def yourN (n : Int) : List Str := if n = 0 then ["zz", "q"] else ["y"]
noncomputable def kA (n am L : Int) : Str := itKey "LIMITER" (mineN n) am L "second"
noncomputable def kB (n am L : Int) : Str := itKey "other" (yourN n) am L "minute"
noncomputable def kS1 (am L : Int) : Str := itKey "other" ["stranger"] am L "minute"
noncomputable def kS2 (am L : Int) : Str := itKey "other" ["stranger", "q"] am L "minute"
noncomputable def kT (n am L : Int) : Str := itKey "third" (yourN n) am L "minute"
noncomputable def difAt (p : Nat) (a b : Str) : Bool := match a.cps[p]?, b.cps[p]? with
  | some x, some y => !(x == y)
  | _, _ => false
theorem Dif.of {p : Nat} {a b : Str} (h : difAt p a b = true) : Dif a b := by
  unfold difAt at h
  split at h
  · rename_i x y e1 e2
    exact ⟨⟨p, x, y, e1, e2, fun e => by simp [e] at h⟩⟩
  · cases h
theorem difs_all : ∀ am : Fin 6, ∀ L : Fin 8, (difAt 10 (kA 0 am.val L.val) (kA 1 am.val L.val) && difAt 6 (kB 0 am.val L.val) (kB 1 am.val L.val) && difAt 6 (kS1 am.val L.val) (kB 0 am.val L.val) && difAt 6 (kS1 am.val L.val) (kB 1 am.val L.val) && difAt 6 (kS2 am.val L.val) (kB 0 am.val L.val) && difAt 6 (kS2 am.val L.val) (kB 1 am.val L.val)
    && difAt 0 (kT 0 am.val L.val) (kB 0 am.val L.val) && difAt 0 (kT 0 am.val L.val) (kB 1 am.val L.val) && difAt 0 (kT 1 am.val L.val) (kB 0 am.val L.val) && difAt 0 (kT 1 am.val L.val) (kB 1 am.val L.val)
    && decide ((kA 0 am.val L.val).length ≤ 100) && decide ((kA 1 am.val L.val).length ≤ 100) && decide ((kB 0 am.val L.val).length ≤ 100) && decide ((kB 1 am.val L.val).length ≤ 100) && decide ((kS1 am.val L.val).length ≤ 100) && decide ((kS2 am.val L.val).length ≤ 100) && decide ((kT 0 am.val L.val).length ≤ 100) && decide ((kT 1 am.val L.val).length ≤ 100)) = true := by decide +kernel
structure KsL (am L : Int) : Prop where
  a01 : Dif (kA 0 am L) (kA 1 am L)
  b01 : Dif (kB 0 am L) (kB 1 am L)
  s10 : Dif (kS1 am L) (kB 0 am L)
  s11 : Dif (kS1 am L) (kB 1 am L)
  s20 : Dif (kS2 am L) (kB 0 am L)
  s21 : Dif (kS2 am L) (kB 1 am L)
  t00 : Dif (kT 0 am L) (kB 0 am L)
  t01 : Dif (kT 0 am L) (kB 1 am L)
  t10 : Dif (kT 1 am L) (kB 0 am L)
  t11 : Dif (kT 1 am L) (kB 1 am L)
  la0 : (kA 0 am L).length ≤ 100
  la1 : (kA 1 am L).length ≤ 100
  lb0 : (kB 0 am L).length ≤ 100
  lb1 : (kB 1 am L).length ≤ 100
  ls1 : (kS1 am L).length ≤ 100
  ls2 : (kS2 am L).length ≤ 100
  lt0 : (kT 0 am L).length ≤ 100
  lt1 : (kT 1 am L).length ≤ 100
theorem ksL {am L : Int} (a0 : 0 ≤ am) (a1 : am < 6) (l0 : 0 ≤ L) (l1 : L < 8) : KsL am L := by
  obtain ⟨a, rfl⟩ := Int.eq_ofNat_of_zero_le a0
  obtain ⟨l, rfl⟩ := Int.eq_ofNat_of_zero_le l0
  have z := difs_all ⟨a, by (first | lia | omega)⟩ ⟨l, by (first | lia | omega)⟩
  simp only [Bool.and_eq_true, decide_eq_true_eq] at z
  obtain ⟨⟨⟨⟨⟨⟨⟨⟨⟨⟨⟨⟨⟨⟨⟨⟨⟨z1, z2⟩, z3⟩, z4⟩, z5⟩, z6⟩, z7⟩, z8⟩, z9⟩, z10⟩, z11⟩, z12⟩, z13⟩, z14⟩, z15⟩, z16⟩, z17⟩, z18⟩ := z
  exact ⟨.of z1, .of z2, .of z3, .of z4, .of z5, .of z6, .of z7, .of z8, .of z9, .of z10, z11, z12, z13, z14, z15, z16, z17, z18⟩
structure R2 (am L x : Int) (σ1 σ2 : St) : Prop where
  a : RP L x σ1 σ2 (kA 0 am L) (kB 0 am L)
  b : RP L x σ1 σ2 (kA 1 am L) (kB 1 am L)
section
variable {am L x t c c' kind deed n : Int} {σ1 σ2 τ1 τ2 : St} {j2 : Str}
theorem R2.at (R : R2 am L x σ1 σ2) (hn : n = 0 ∨ n = 1) : RP L x σ1 σ2 (kA n am L) (kB n am L) := by
  rcases hn with rfl | rfl
  · exact R.a
  · exact R.b
theorem R2.strange (R : R2 am L x σ1 σ2) (o2 : Off j2 σ2 τ2) (d0 : Dif j2 (kB 0 am L)) (d1 : Dif j2 (kB 1 am L)) : R2 am L x σ1 τ2 := ⟨R.a.off2 o2 d0, R.b.off2 o2 d1⟩
theorem R2.move (R : R2 am L x σ1 σ2) (K : KsL am L) (hn : n = 0 ∨ n = 1) (o1 : Off (kA n am L) σ1 τ1) (o2 : Off (kB n am L) σ2 τ2) (r : RP L x τ1 τ2 (kA n am L) (kB n am L)) : R2 am L x τ1 τ2 := by
  rcases hn with rfl | rfl
  · exact ⟨r, R.b.off o1 o2 K.a01 K.b01⟩
  · exact ⟨R.a.off o1 o2 K.a01.symm K.b01.symm, r⟩
theorem R2.step (R : R2 am L x σ1 σ2) (K : KsL am L) (hn : n = 0 ∨ n = 1) (hkd : kind = 0 ∨ kind = 1 ∨ kind = 2) (hL : 0 < L) (h0 : 0 ≤ t) (hx : 0 ≤ x) :
    vStep deed kind σ2 (60 * t + 60 * L * (1 + x)) (kB n am L) am (60 * L) c = vStep deed kind σ1 t (kA n am L) am L c ∧
    R2 am L x (sStep deed kind σ1 t (kA n am L) am L c) (sStep deed kind σ2 (60 * t + 60 * L * (1 + x)) (kB n am L) am (60 * L) c) := by
  obtain ⟨v, r⟩ := rp_step (am := am) (c := c) (deed := deed) hkd (R.at hn) hL h0 hx
  refine ⟨v, ?_⟩
  by_cases h2 : deed = 2
  · subst h2
    have e1 : sStep 2 kind σ1 t (kA n am L) am L c = sSweep σ1 t := rfl
    have e2 : sStep 2 kind σ2 (60 * t + 60 * L * (1 + x)) (kB n am L) am (60 * L) c = sSweep σ2 (60 * t + 60 * L * (1 + x)) := rfl
    rw [e1, e2]
    exact ⟨rp_sweep R.a, rp_sweep R.b⟩
  · exact R.move K hn (off_step h2) (off_step h2) r
theorem R2.stats (R : R2 am L x σ1 σ2) (K : KsL am L) (hn : n = 0 ∨ n = 1) (hkd : kind = 0 ∨ kind = 1 ∨ kind = 2) (hL : 0 < L) (h0 : 0 ≤ t) (hx : 0 ≤ x) :
    R2 am L x (sTestK kind σ1 t (kA n am L) am L c) (sTestK kind σ2 (60 * t + 60 * L * (1 + x)) (kB n am L) am (60 * L) c) :=
  R.move K hn off_test off_test (rp_test (am := am) (c := c) (c' := c) hkd (R.at hn) hL h0 hx).2
theorem R2.init : R2 am L x ⟨fun _ => none, fun _ => none, fun _ => none⟩ ⟨fun _ => none, fun _ => none, fun _ => none⟩ :=
  ⟨⟨⟨rfl, rfl⟩, ⟨rfl⟩, fun _ => ⟨rfl, rfl⟩⟩, ⟨⟨rfl, rfl⟩, ⟨rfl⟩, fun _ => ⟨rfl, rfl⟩⟩⟩
end

structure Two where
  (S1 S2 : Ids)
  (hd scr nl : Addr)
structure Var where
  (ho no t t5 s1 e1 v1 s2 e2 v2 : Obj)
noncomputable def Two.Mut (Y : Two) : List Addr := [Y.hd, Y.nl, 640, 588, Y.S1.ds, Y.S1.de, Y.S1.dv, Y.S2.ds, Y.S2.de, Y.S2.dv]
@[irreducible] def Two.mu (Y : Two) (V : Var) : List (Addr × Obj) := [(Y.hd, V.ho), (Y.nl, V.no), (640, V.t), (588, V.t5), (Y.S1.ds, V.s1), (Y.S1.de, V.e1), (Y.S1.dv, V.v1), (Y.S2.ds, V.s2), (Y.S2.de, V.e2), (Y.S2.dv, V.v2)]
@[irreducible] def Two.led (Y : Two) (V : Var) (lg fz : List (Addr × Obj)) : List (Addr × Obj) := Y.mu V ++ (lg ++ fz)
theorem Two.mem_mu {Y : Two} {V : Var} {q : Addr × Obj} : q ∈ Y.mu V ↔ q = (Y.hd, V.ho) ∨ q = (Y.nl, V.no) ∨ q = (640, V.t) ∨ q = (588, V.t5) ∨ q = (Y.S1.ds, V.s1) ∨ q = (Y.S1.de, V.e1) ∨ q = (Y.S1.dv, V.v1) ∨ q = (Y.S2.ds, V.s2) ∨ q = (Y.S2.de, V.e2) ∨ q = (Y.S2.dv, V.v2) := by
  unfold Two.mu; simp only [List.mem_cons, List.not_mem_nil, or_false]
theorem Two.im {Y : Two} {V : Var} {q : Addr × Obj} (h : q ∈ [(Y.hd, V.ho), (Y.nl, V.no), (640, V.t), (588, V.t5), (Y.S1.ds, V.s1), (Y.S1.de, V.e1), (Y.S1.dv, V.v1), (Y.S2.ds, V.s2), (Y.S2.de, V.e2), (Y.S2.dv, V.v2)]) : q ∈ Y.mu V := by
  unfold Two.mu; exact h
theorem Two.all_mu {Y : Two} {V : Var} {P : Addr × Obj → Prop} (h : P (Y.hd, V.ho) ∧ P (Y.nl, V.no) ∧ P (640, V.t) ∧ P (588, V.t5) ∧ P (Y.S1.ds, V.s1) ∧ P (Y.S1.de, V.e1) ∧ P (Y.S1.dv, V.v1) ∧ P (Y.S2.ds, V.s2) ∧ P (Y.S2.de, V.e2) ∧ P (Y.S2.dv, V.v2)) : ∀ q ∈ Y.mu V, P q := by
  unfold Two.mu
  obtain ⟨h0, h1, h2, h3, h4, h5, h6, h7, h8, h9⟩ := h
  exact List.forall_mem_cons.mpr ⟨h0, List.forall_mem_cons.mpr ⟨h1, List.forall_mem_cons.mpr ⟨h2, List.forall_mem_cons.mpr ⟨h3, List.forall_mem_cons.mpr ⟨h4, List.forall_mem_cons.mpr ⟨h5, List.forall_mem_cons.mpr ⟨h6, List.forall_mem_cons.mpr ⟨h7, List.forall_mem_cons.mpr ⟨h8, List.forall_mem_cons.mpr ⟨h9, fun _ h => nomatch h⟩⟩⟩⟩⟩⟩⟩⟩⟩⟩
theorem Two.mu_fst {Y : Two} {V : Var} : (Y.mu V).map Prod.fst = Y.Mut := by unfold Two.mu; rfl
theorem Two.mu_Mut {Y : Two} {V : Var} {q : Addr × Obj} (h : q ∈ Y.mu V) : q.1 ∈ Y.Mut := Two.mu_fst (V := V) ▸ List.mem_map_of_mem (f := Prod.fst) h
theorem Two.mem_led {Y : Two} {V : Var} {lg fz : List (Addr × Obj)} {q : Addr × Obj} : q ∈ Y.led V lg fz ↔ q ∈ Y.mu V ∨ q ∈ lg ∨ q ∈ fz := by
  unfold Two.led; simp only [List.mem_append]
theorem Two.inF {Y : Two} {V : Var} {lg fz : List (Addr × Obj)} {q : Addr × Obj} (h : q ∈ fz) : q ∈ Y.led V lg fz := Two.mem_led.mpr (.inr (.inr h))
theorem Two.inM {Y : Two} {V : Var} {lg fz : List (Addr × Obj)} {q : Addr × Obj} (h : q ∈ Y.mu V) : q ∈ Y.led V lg fz := Two.mem_led.mpr (.inl h)
theorem allLt_mem {d : Nat} {l : List (Addr × Obj)} (h : AllLt d l) : ∀ q ∈ l, @LT.lt Nat _ q.1 d := by
  induction l with
  | nil => exact fun _ h => nomatch h
  | cons p r ih =>
    intro q hq
    rcases List.mem_cons.mp hq with rfl | hq
    · exact h.1
    · exact ih h.2 q hq
theorem Two.mu_ex {Y : Two} (V : Var) {a : Addr} (h : a ∈ Y.Mut) : ∃ o, (a, o) ∈ Y.mu V := by
  rw [← Two.mu_fst (V := V)] at h
  obtain ⟨q, hq, rfl⟩ := List.mem_map.mp h
  exact ⟨q.2, hq⟩
theorem Two.notMut {Y : Two} {V : Var} {lg fz : List (Addr × Obj)} {d : Addr} (h : AllLt d (Y.led V lg fz)) : d ∉ Y.Mut := fun hm => by
  obtain ⟨o, ho⟩ := Two.mu_ex V hm
  exact absurd (allLt_mem h _ (Two.inM ho)) (Nat.lt_irrefl _)
inductive TmA (M : List Addr) (ll : List (Addr × Obj)) : List (Addr × Obj) → List (Addr × Obj) → Prop
  | nil : TmA M ll ll []
  | cons {q r tm} : q.1 ∉ M → TmA M ll r tm → TmA M ll (q :: r) (q :: tm)
  | skip {q r tm} : TmA M ll r tm → TmA M ll (q :: r) tm
theorem TmA.mem {M : List Addr} {ll news tm : List (Addr × Obj)} (P : TmA M ll news tm) : (∀ q ∈ ll, q ∈ news) ∧ ∀ q ∈ tm, q.1 ∉ M ∧ q ∈ news := by
  induction P with
  | nil => exact ⟨fun _ h => h, fun _ h => nomatch h⟩
  | cons h _ ih => exact ⟨fun q hq => .tail _ (ih.1 q hq), fun q hq => by
      rcases List.mem_cons.mp hq with rfl | hq
      · exact ⟨h, .head _⟩
      · exact ⟨(ih.2 q hq).1, .tail _ (ih.2 q hq).2⟩⟩
  | skip _ ih => exact ⟨fun q hq => .tail _ (ih.1 q hq), fun q hq => ⟨(ih.2 q hq).1, .tail _ (ih.2 q hq).2⟩⟩
structure LW (prog : Program) (w : World) (Y : Two) (V : Var) (lg fz : List (Addr × Obj)) (k t : Int) (t2 : Int) (σ1 σ2 : St) (c1 c2 : Nat) : Prop where
  off : ∀ q ∈ lg ++ fz, q.1 ∉ Y.Mut
  ho : ∃ u n0, V.ho = lstO [.ref Y.scr, .int k u] n0
  no : ∃ u n0, V.no = lstO [.int t u] n0
  D1 : Dat prog w lg ⟨V.s1, V.e1, V.v1, V.t, V.t5⟩ σ1 c1
  D2 : Dat prog w lg ⟨V.s2, V.e2, V.v2, V.t, V.t5⟩ σ2 c2
  b1 : 0 ≤ t ∧ t < 2 ^ 20
  b2 : 0 ≤ t2 ∧ t2 < 2 ^ 29
  ap : ∀ q ∈ lg, ∀ r ∈ fz, q.1 ≠ r.1
structure LG (prog : Program) (w : World) (K : Frag) (p : Program) (loose : List Str) (mean : ExcName → Option Value) (mg mb : Str → Option Value) (g : Heap) (env : Env) (L : Addr) (Y : Two) (fz : List (Addr × Obj)) (ahead : Int) : Prop where
  X : K.In g
  T : Top p loose mean mg mb g
  C1 : CodeHd g 644 640
  C2 : CodeHd g 592 588
  hf : env.frame = some L
  hk : env.scope.kind = .function
  nd : Y.Mut.Nodup
  o1 : Y.S1.Ok
  o15 : Y.S1.Ok5
  o2 : Y.S2.Ok
  o25 : Y.S2.Ok5
  a1 : (Y.S1.st, instObj 691 Y.S1.d) ∈ fz
  d1 : (Y.S1.d, dictOf (stDict w Y.S1) 4) ∈ fz
  a2 : (Y.S2.st, instObj 691 Y.S2.d) ∈ fz
  d2 : (Y.S2.d, dictOf (stDict w Y.S2) 4) ∈ fz
  f1 : ∃ c dd fd sl, (Y.S1.fc, ⟨c, dd, .func fd, sl⟩) ∈ fz
  f2 : ∃ c dd fd sl, (Y.S2.fc, ⟨c, dd, .func fd, sl⟩) ∈ fz
  k1 : ∀ (base : Heap) (t : Int) u n0, (∀ b o, g.get? b = some o → base.get? b = some o) → (∀ q ∈ fz, base.get? q.1 = some q.2) → base.get? Y.nl = some (lstO [.int t u] n0) → Clk prog w base Y.S1.fc t
  k2 : ∀ (base : Heap) (t : Int) u n0, (∀ b o, g.get? b = some o → base.get? b = some o) → (∀ q ∈ fz, base.get? q.1 = some q.2) → base.get? Y.nl = some (lstO [.int t u] n0) → Clk prog w base Y.S2.fc (60 * t + ahead)
section
variable {prog : Program} {w : World} {K : Frag} {p : Program} {loose : List Str} {mean : ExcName → Option Value} {mg mb : Str → Option Value} {g h h' : Heap} {env : Env} {L : Addr} {Y : Two} {V : Var} {lg fz tm news : List (Addr × Obj)} {ahead : Int} {k t : Int} {σ1 σ2 σ' : St} {c1 c2 c' : Nat} {m : Str → Option Value} {O' : Ob} {lg' : List (Addr × Obj)} {g' : Heap}
theorem Two.M1 {a : Addr} (h : a ∈ Y.S1.M) : a ∈ Y.Mut := by
  rcases mem_M h with rfl | rfl | rfl | rfl | rfl <;> (unfold Two.Mut; k_mem)
theorem Two.M2 {a : Addr} (h : a ∈ Y.S2.M) : a ∈ Y.Mut := by
  rcases mem_M h with rfl | rfl | rfl | rfl | rfl <;> (unfold Two.Mut; k_mem)
theorem Two.apart (nd : Y.Mut.Nodup) : (∀ a ∈ [Y.hd, Y.nl], ∀ b ∈ [640, 588] ++ ([Y.S1.ds, Y.S1.de, Y.S1.dv] ++ [Y.S2.ds, Y.S2.de, Y.S2.dv]), a ≠ b) ∧ (∀ a ∈ ([640, 588] : List Addr), ∀ b ∈ [Y.S1.ds, Y.S1.de, Y.S1.dv] ++ [Y.S2.ds, Y.S2.de, Y.S2.dv], a ≠ b) ∧ (∀ a ∈ [Y.S1.ds, Y.S1.de, Y.S1.dv], ∀ b ∈ [Y.S2.ds, Y.S2.de, Y.S2.dv], a ≠ b) := by
  have n1 := List.nodup_append.mp (show ([Y.hd, Y.nl] ++ ([640, 588] ++ ([Y.S1.ds, Y.S1.de, Y.S1.dv] ++ [Y.S2.ds, Y.S2.de, Y.S2.dv]))).Nodup from nd)
  have n2 := List.nodup_append.mp n1.2.1
  exact ⟨n1.2.2, n2.2.2, (List.nodup_append.mp n2.2.1).2.2⟩
theorem Two.off1 (nd : Y.Mut.Nodup) {a : Addr} (h : a ∈ [Y.hd, Y.nl] ∨ a ∈ [Y.S2.ds, Y.S2.de, Y.S2.dv]) : a ∉ Y.S1.M := fun hm => by
  obtain ⟨p1, p2, p3⟩ := Two.apart nd
  have hm' : a ∈ ([640, 588] : List Addr) ∨ a ∈ [Y.S1.ds, Y.S1.de, Y.S1.dv] := List.mem_append.mp (show a ∈ ([640, 588] : List Addr) ++ [Y.S1.ds, Y.S1.de, Y.S1.dv] from hm)
  rcases h with h | h
  · exact p1 a h a (List.mem_append.mpr (hm'.imp id fun x => List.mem_append_left _ x)) rfl
  · rcases hm' with x | x
    · exact p2 a x a (List.mem_append_right _ h) rfl
    · exact p3 a x a h rfl
theorem Two.off2 (nd : Y.Mut.Nodup) {a : Addr} (h : a ∈ [Y.hd, Y.nl] ∨ a ∈ [Y.S1.ds, Y.S1.de, Y.S1.dv]) : a ∉ Y.S2.M := fun hm => by
  obtain ⟨p1, p2, p3⟩ := Two.apart nd
  have hm' : a ∈ ([640, 588] : List Addr) ∨ a ∈ [Y.S2.ds, Y.S2.de, Y.S2.dv] := List.mem_append.mp (show a ∈ ([640, 588] : List Addr) ++ [Y.S2.ds, Y.S2.de, Y.S2.dv] from hm)
  rcases h with h | h
  · exact p1 a h a (List.mem_append.mpr (hm'.imp id fun x => List.mem_append_right _ x)) rfl
  · rcases hm' with x | x
    · exact p2 a x a (List.mem_append_left _ h) rfl
    · exact p3 a h a x rfl
theorem mut_none (N : News g L h (Y.led V lg fz)) {a : Addr} (ha : a ∈ Y.Mut) : a ≠ L ∧ g.get? a = none := by
  obtain ⟨o, ho⟩ := Two.mu_ex V ha
  exact (N _ (Two.inM ho)).2
theorem LG.sto1 (G : LG prog w K p loose mean mg mb g env L Y fz ahead) (W : LW prog w Y V lg fz k t (60 * t + ahead) σ1 σ2 c1 c2) (F : Fr g L h m) (N : News g L h (Y.led V lg fz)) :
    Sto prog w K p loose mean mg mb (callerA.deeper env) (hideAll h (L :: Y.S1.M)) [env] h Y.S1 t ⟨V.s1, V.e1, V.v1, V.t, V.t5⟩ σ1 c1 lg := by
  have hn : ∀ a ∈ Y.S1.M, a ≠ L ∧ g.get? a = none := fun a ha => mut_none N (Two.M1 ha)
  have kg : ∀ b o, g.get? b = some o → (hideAll h (L :: Y.S1.M)).get? b = some o := hidden F.keep fun a ha => by
    rcases List.mem_cons.mp ha with rfl | ha
    · exact kts_self F
    · exact (hn a ha).2
  have kl : ∀ q ∈ lg ++ fz, (hideAll h (L :: Y.S1.M)).get? q.1 = some q.2 := fun q hq => by
    have := N q (Two.mem_led.mpr (.inr (List.mem_append.mp hq)))
    refine hideAll_get _ this.1 fun hm => ?_
    rcases List.mem_cons.mp hm with e | hm
    · exact this.2.1 e
    · exact W.off q hq (Two.M1 hm)
  have kf : ∀ q ∈ fz, (hideAll h (L :: Y.S1.M)).get? q.1 = some q.2 := fun q hq => kl q (List.mem_append_right _ hq)
  have mu : ∀ q, q ∈ Y.mu V → h.get? q.1 = some q.2 := fun q hq => (N q (Two.inM hq)).1
  obtain ⟨u, n0, hno⟩ := W.no
  have hnl : (hideAll h (L :: Y.S1.M)).get? Y.nl = some (lstO [.int t u] n0) := by
    rw [← hno]
    have hm : (Y.nl, V.no) ∈ Y.mu V := Two.im (by k_mem)
    refine hideAll_get _ (mu _ hm) fun hm' => ?_
    rcases List.mem_cons.mp hm' with e | hm'
    · exact (N _ (Two.inM hm)).2.1 e
    · exact Two.off1 G.nd (.inl (by k_mem)) hm'
  have I : StI prog w (hideAll h (L :: Y.S1.M)) Y.S1 t := ⟨kf (Y.S1.st, _) G.a1, kf (Y.S1.d, _) G.d1, by
    obtain ⟨c, dd, fd, sl, e⟩ := G.f1
    exact ⟨c, dd, fd, sl, kf (Y.S1.fc, _) e⟩, G.k1 _ _ _ _ kg kf hnl, by have := W.b1; (first | lia | omega)⟩
  refine ⟨⟨G.o1, G.o15, G.X.keeps kg, G.T.keeps kg, G.C1.keeps kg, G.C2.keeps kg, I, fun q hq => kl q (List.mem_append_left _ hq)⟩, ⟨Around.frames_deeper (below_caller h).stack, fun b o e => ?_, ?_⟩, mu (Y.S1.ds, V.s1) (Two.im (by k_mem)), mu (Y.S1.de, V.e1) (Two.im (by k_mem)), mu (Y.S1.dv, V.v1) (Two.im (by k_mem)), mu (640, V.t) (Two.im (by k_mem)), mu (588, V.t5) (Two.im (by k_mem)), W.D1⟩
  · refine hideAll_get _ (of_hideAll _ e) fun hm => ?_
    rw [hideAll_none _ (List.mem_cons_of_mem _ hm)] at e; cases e
  · exact .cons (by rw [G.hk]; decide) G.hf (fr_M F hn).ns (hideAll_none _ (.head _)) trivial
theorem LG.sto2 (G : LG prog w K p loose mean mg mb g env L Y fz ahead) (W : LW prog w Y V lg fz k t (60 * t + ahead) σ1 σ2 c1 c2) (F : Fr g L h m) (N : News g L h (Y.led V lg fz)) :
    Sto prog w K p loose mean mg mb (callerA.deeper env) (hideAll h (L :: Y.S2.M)) [env] h Y.S2 (60 * t + ahead) ⟨V.s2, V.e2, V.v2, V.t, V.t5⟩ σ2 c2 lg := by
  have hn : ∀ a ∈ Y.S2.M, a ≠ L ∧ g.get? a = none := fun a ha => mut_none N (Two.M2 ha)
  have kg : ∀ b o, g.get? b = some o → (hideAll h (L :: Y.S2.M)).get? b = some o := hidden F.keep fun a ha => by
    rcases List.mem_cons.mp ha with rfl | ha
    · exact kts_self F
    · exact (hn a ha).2
  have kl : ∀ q ∈ lg ++ fz, (hideAll h (L :: Y.S2.M)).get? q.1 = some q.2 := fun q hq => by
    have := N q (Two.mem_led.mpr (.inr (List.mem_append.mp hq)))
    refine hideAll_get _ this.1 fun hm => ?_
    rcases List.mem_cons.mp hm with e | hm
    · exact this.2.1 e
    · exact W.off q hq (Two.M2 hm)
  have kf : ∀ q ∈ fz, (hideAll h (L :: Y.S2.M)).get? q.1 = some q.2 := fun q hq => kl q (List.mem_append_right _ hq)
  have mu : ∀ q, q ∈ Y.mu V → h.get? q.1 = some q.2 := fun q hq => (N q (Two.inM hq)).1
  obtain ⟨u, n0, hno⟩ := W.no
  have hnl : (hideAll h (L :: Y.S2.M)).get? Y.nl = some (lstO [.int t u] n0) := by
    rw [← hno]
    have hm : (Y.nl, V.no) ∈ Y.mu V := Two.im (by k_mem)
    refine hideAll_get _ (mu _ hm) fun hm' => ?_
    rcases List.mem_cons.mp hm' with e | hm'
    · exact (N _ (Two.inM hm)).2.1 e
    · exact Two.off2 G.nd (.inl (by k_mem)) hm'
  have I : StI prog w (hideAll h (L :: Y.S2.M)) Y.S2 (60 * t + ahead) := ⟨kf (Y.S2.st, _) G.a2, kf (Y.S2.d, _) G.d2, by
    obtain ⟨c, dd, fd, sl, e⟩ := G.f2
    exact ⟨c, dd, fd, sl, kf (Y.S2.fc, _) e⟩, G.k2 _ _ _ _ kg kf hnl, by have := W.b2; (first | lia | omega)⟩
  refine ⟨⟨G.o2, G.o25, G.X.keeps kg, G.T.keeps kg, G.C1.keeps kg, G.C2.keeps kg, I, fun q hq => kl q (List.mem_append_left _ hq)⟩, ⟨Around.frames_deeper (below_caller h).stack, fun b o e => ?_, ?_⟩, mu (Y.S2.ds, V.s2) (Two.im (by k_mem)), mu (Y.S2.de, V.e2) (Two.im (by k_mem)), mu (Y.S2.dv, V.v2) (Two.im (by k_mem)), mu (640, V.t) (Two.im (by k_mem)), mu (588, V.t5) (Two.im (by k_mem)), W.D2⟩
  · refine hideAll_get _ (of_hideAll _ e) fun hm => ?_
    rw [hideAll_none _ (List.mem_cons_of_mem _ hm)] at e; cases e
  · exact .cons (by rw [G.hk]; decide) G.hf (fr_M F hn).ns (hideAll_none _ (.head _)) trivial

theorem aft_keep {S : Ids} (hf : env.frame = some L) (F : Fr g L h m) (hn : ∀ a ∈ S.M, a ≠ L ∧ g.get? a = none) (P : Aft prog w [env] h h' S O' σ' c' lg lg' g') :
    Fr g L h' m ∧ (∀ b o, h.get? b = some o → b ∉ S.M → b ≠ L → h'.get? b = some o) ∧ ∀ q ∈ lg', (h'.get? q.1 = some q.2 ∧ q.1 ≠ L ∧ g.get? q.1 = none) ∧ h.get? q.1 = none := by
  have FH := fr_M F hn
  have hfs : [env].filterMap (·.frame) = [L] := by simp [hf]
  have T := P.T
  rw [hfs] at T
  have kb : ∀ b o, h.get? b = some o → b ∉ S.M → b ≠ L → h'.get? b = some o := fun b o e hM hL => P.k _ _ (T.other _ _ (hideAll_get _ e hM) (by simpa using hL))
  have hsm : (hideAll h S.M).UpToSlots h' := fun b o e _ => by
    obtain ⟨sl, hs⟩ := T.up e
    exact ⟨sl, P.k _ _ hs⟩
  exact ⟨⟨hsm.ns FH.ns, fun b o e => kb b o (F.keep b o e) (fun hm => by rw [(hn b hm).2] at e; cases e) (fun hb => by rw [hb, kts_self F] at e; cases e), F.above⟩, kb, fun q hq => ⟨new_led F (fun _ e => e) (P.n q hq).1 (P.n q hq).2, (P.n q hq).2⟩⟩
theorem LW.aft1 {t2 : Int} (G : LG prog w K p loose mean mg mb g env L Y fz ahead) (W : LW prog w Y V lg fz k t t2 σ1 σ2 c1 c2) (F : Fr g L h m) (N : News g L h news) (TP : TmA Y.Mut (Y.led V lg fz) news tm) (P : Aft prog w [env] h h' Y.S1 O' σ' c' lg lg' g') :
    Fr g L h' m ∧ News g L h' (tm ++ Y.led ⟨V.ho, V.no, O'.t, O'.t5, O'.s, O'.e, O'.v, V.s2, V.e2, V.v2⟩ (lg' ++ lg) fz) ∧ LW prog w Y ⟨V.ho, V.no, O'.t, O'.t5, O'.s, O'.e, O'.v, V.s2, V.e2, V.v2⟩ (lg' ++ lg) fz k t t2 σ' σ2 c' c2 := by
  obtain ⟨hl, ht⟩ := TP.mem
  have hn : ∀ a ∈ Y.Mut, a ≠ L ∧ g.get? a = none := fun a ha => mut_none (fun q hq => N q (hl q hq)) ha
  obtain ⟨F', kb, nw⟩ := aft_keep G.hf F (fun a ha => hn a (Two.M1 ha)) P
  have old : ∀ q ∈ news, q.1 ∉ Y.S1.M → h'.get? q.1 = some q.2 ∧ q.1 ≠ L ∧ g.get? q.1 = none := fun q hq hM => ⟨kb _ _ (N q hq).1 hM (N q hq).2.1, (N q hq).2⟩
  have mu : ∀ q ∈ Y.mu V, q ∈ news := fun q hq => hl q (Two.inM hq)
  have five : ∀ {a : Addr} {o : Obj}, a ∈ Y.S1.M → h'.get? a = some o → h'.get? a = some o ∧ a ≠ L ∧ g.get? a = none := fun ha e => ⟨e, hn _ (Two.M1 ha)⟩
  have ap : ∀ q ∈ lg' ++ lg, ∀ r ∈ fz, q.1 ≠ r.1 := fun q hq r hr => by
    rcases List.mem_append.mp hq with hq | hq
    · intro e
      have h1 := (N r (hl r (Two.inF hr))).1
      rw [← e, (nw q hq).2] at h1; cases h1
    · exact W.ap q hq r hr
  refine ⟨F', fun q hq => ?_, ⟨fun q hq => ?_, W.ho, W.no, P.D, ?_, W.b1, W.b2, ap⟩⟩
  · rcases List.mem_append.mp hq with hq | hq
    · exact old q (ht q hq).2 fun hm => (ht q hq).1 (Two.M1 hm)
    · rcases Two.mem_led.mp hq with hq | hq | hq
      · refine Two.all_mu (P := fun q => h'.get? q.1 = some q.2 ∧ q.1 ≠ L ∧ g.get? q.1 = none) ⟨?_, ?_, ?_, ?_, ?_, ?_, ?_, ?_, ?_, ?_⟩ q hq
        · exact old (Y.hd, V.ho) (mu _ (Two.im (by k_mem))) (Two.off1 G.nd (.inl (by k_mem)))
        · exact old (Y.nl, V.no) (mu _ (Two.im (by k_mem))) (Two.off1 G.nd (.inl (by k_mem)))
        · exact five (by k_mem) P.t
        · exact five (by k_mem) P.t5
        · exact five (by k_mem) P.s
        · exact five (by k_mem) P.e
        · exact five (by k_mem) P.v
        · exact old (Y.S2.ds, V.s2) (mu _ (Two.im (by k_mem))) (Two.off1 G.nd (.inr (by k_mem)))
        · exact old (Y.S2.de, V.e2) (mu _ (Two.im (by k_mem))) (Two.off1 G.nd (.inr (by k_mem)))
        · exact old (Y.S2.dv, V.v2) (mu _ (Two.im (by k_mem))) (Two.off1 G.nd (.inr (by k_mem)))
      · rcases List.mem_append.mp hq with hq | hq
        · exact (nw q hq).1
        · exact old q (hl q (Two.mem_led.mpr (.inr (.inl hq)))) fun hm => W.off q (List.mem_append_left _ hq) (Two.M1 hm)
      · exact old q (hl q (Two.inF hq)) fun hm => W.off q (List.mem_append_right _ hq) (Two.M1 hm)
  · rw [List.append_assoc] at hq
    rcases List.mem_append.mp hq with hq | hq
    · intro hm
      obtain ⟨o, ho⟩ := Two.mu_ex V hm
      have h1 := (N _ (mu _ ho)).1
      rw [(nw q hq).2] at h1; cases h1
    · exact W.off q hq
  · have sub : ∀ q ∈ lg, q ∈ lg' ++ lg := fun q hq => List.mem_append_right _ hq
    have D := P.D
    exact ⟨W.D2.s, W.D2.e, W.D2.v.more sub, D.t, D.t5, W.D2.b, W.D2.hc⟩
theorem LW.aft2 {t2 : Int} (G : LG prog w K p loose mean mg mb g env L Y fz ahead) (W : LW prog w Y V lg fz k t t2 σ1 σ2 c1 c2) (F : Fr g L h m) (N : News g L h news) (TP : TmA Y.Mut (Y.led V lg fz) news tm) (P : Aft prog w [env] h h' Y.S2 O' σ' c' lg lg' g') :
    Fr g L h' m ∧ News g L h' (tm ++ Y.led ⟨V.ho, V.no, O'.t, O'.t5, V.s1, V.e1, V.v1, O'.s, O'.e, O'.v⟩ (lg' ++ lg) fz) ∧ LW prog w Y ⟨V.ho, V.no, O'.t, O'.t5, V.s1, V.e1, V.v1, O'.s, O'.e, O'.v⟩ (lg' ++ lg) fz k t t2 σ1 σ' c1 c' := by
  obtain ⟨hl, ht⟩ := TP.mem
  have hn : ∀ a ∈ Y.Mut, a ≠ L ∧ g.get? a = none := fun a ha => mut_none (fun q hq => N q (hl q hq)) ha
  obtain ⟨F', kb, nw⟩ := aft_keep G.hf F (fun a ha => hn a (Two.M2 ha)) P
  have old : ∀ q ∈ news, q.1 ∉ Y.S2.M → h'.get? q.1 = some q.2 ∧ q.1 ≠ L ∧ g.get? q.1 = none := fun q hq hM => ⟨kb _ _ (N q hq).1 hM (N q hq).2.1, (N q hq).2⟩
  have mu : ∀ q ∈ Y.mu V, q ∈ news := fun q hq => hl q (Two.inM hq)
  have five : ∀ {a : Addr} {o : Obj}, a ∈ Y.S2.M → h'.get? a = some o → h'.get? a = some o ∧ a ≠ L ∧ g.get? a = none := fun ha e => ⟨e, hn _ (Two.M2 ha)⟩
  have ap : ∀ q ∈ lg' ++ lg, ∀ r ∈ fz, q.1 ≠ r.1 := fun q hq r hr => by
    rcases List.mem_append.mp hq with hq | hq
    · intro e
      have h1 := (N r (hl r (Two.inF hr))).1
      rw [← e, (nw q hq).2] at h1; cases h1
    · exact W.ap q hq r hr
  refine ⟨F', fun q hq => ?_, ⟨fun q hq => ?_, W.ho, W.no, ?_, P.D, W.b1, W.b2, ap⟩⟩
  · rcases List.mem_append.mp hq with hq | hq
    · exact old q (ht q hq).2 fun hm => (ht q hq).1 (Two.M2 hm)
    · rcases Two.mem_led.mp hq with hq | hq | hq
      · refine Two.all_mu (P := fun q => h'.get? q.1 = some q.2 ∧ q.1 ≠ L ∧ g.get? q.1 = none) ⟨?_, ?_, ?_, ?_, ?_, ?_, ?_, ?_, ?_, ?_⟩ q hq
        · exact old (Y.hd, V.ho) (mu _ (Two.im (by k_mem))) (Two.off2 G.nd (.inl (by k_mem)))
        · exact old (Y.nl, V.no) (mu _ (Two.im (by k_mem))) (Two.off2 G.nd (.inl (by k_mem)))
        · exact five (by k_mem) P.t
        · exact five (by k_mem) P.t5
        · exact old (Y.S1.ds, V.s1) (mu _ (Two.im (by k_mem))) (Two.off2 G.nd (.inr (by k_mem)))
        · exact old (Y.S1.de, V.e1) (mu _ (Two.im (by k_mem))) (Two.off2 G.nd (.inr (by k_mem)))
        · exact old (Y.S1.dv, V.v1) (mu _ (Two.im (by k_mem))) (Two.off2 G.nd (.inr (by k_mem)))
        · exact five (by k_mem) P.s
        · exact five (by k_mem) P.e
        · exact five (by k_mem) P.v
      · rcases List.mem_append.mp hq with hq | hq
        · exact (nw q hq).1
        · exact old q (hl q (Two.mem_led.mpr (.inr (.inl hq)))) fun hm => W.off q (List.mem_append_left _ hq) (Two.M2 hm)
      · exact old q (hl q (Two.inF hq)) fun hm => W.off q (List.mem_append_right _ hq) (Two.M2 hm)
  · rw [List.append_assoc] at hq
    rcases List.mem_append.mp hq with hq | hq
    · intro hm
      obtain ⟨o, ho⟩ := Two.mu_ex V hm
      have h1 := (N _ (mu _ ho)).1
      rw [(nw q hq).2] at h1; cases h1
    · exact W.off q hq
  · have sub : ∀ q ∈ lg, q ∈ lg' ++ lg := fun q hq => List.mem_append_right _ hq
    have D := P.D
    exact ⟨W.D1.s, W.D1.e, W.D1.v.more sub, D.t, D.t5, W.D1.b, W.D1.hc⟩
end

section
variable {prog : Program} {w : World} {K : Frag} {p : Program} {loose : List Str} {mean : ExcName → Option Value} {mg mb : Str → Option Value} {g h h' : Heap} {env : Env} {L : Addr} {Y : Two} {V : Var} {lg fz tm news : List (Addr × Obj)} {ahead : Int} {k t t2 : Int} {σ1 σ2 σ' : St} {c1 c2 c' : Nat} {m : Str → Option Value} {s : Shared} {A : Around} {Q E : Value → Shared → Prop}
theorem one_keep (F : Fr g L h m) {d : Addr} (hd : d ≠ L ∧ g.get? d = none) (kb : ∀ b o, h.get? b = some o → b ≠ d → h'.get? b = some o) : Fr g L h' m := by
  obtain ⟨oL, es, ep, hL, r⟩ := F.ns
  exact ⟨⟨oL, es, ep, kb _ _ hL (fun e => hd.1 e.symm), r⟩, fun b o e => kb _ _ (F.keep b o e) (fun q => by rw [q, hd.2] at e; cases e), F.above⟩
theorem LW.setHo {ho' : Obj} {k' : Int} (nd : Y.Mut.Nodup) (W : LW prog w Y V lg fz k t t2 σ1 σ2 c1 c2) (F : Fr g L h m) (N : News g L h news) (TP : TmA Y.Mut (Y.led V lg fz) news tm) (kb : ∀ b o, h.get? b = some o → b ≠ Y.hd → h'.get? b = some o) (e : h'.get? Y.hd = some ho') (he : ∃ u n0, ho' = lstO [.ref Y.scr, .int k' u] n0) :
    Fr g L h' m ∧ News g L h' (tm ++ Y.led ⟨ho', V.no, V.t, V.t5, V.s1, V.e1, V.v1, V.s2, V.e2, V.v2⟩ lg fz) ∧ LW prog w Y ⟨ho', V.no, V.t, V.t5, V.s1, V.e1, V.v1, V.s2, V.e2, V.v2⟩ lg fz k' t t2 σ1 σ2 c1 c2 := by
  obtain ⟨hl, ht⟩ := TP.mem
  have hhd : Y.hd ∈ Y.Mut := List.mem_cons_self ..
  have hn := mut_none (fun q hq => N q (hl q hq)) hhd
  have old : ∀ q ∈ news, q.1 ≠ Y.hd → h'.get? q.1 = some q.2 ∧ q.1 ≠ L ∧ g.get? q.1 = none := fun q hq hM => ⟨kb _ _ (N q hq).1 hM, (N q hq).2⟩
  have n1 := (List.nodup_cons.mp nd).1
  have mu : ∀ {a : Addr} {o : Obj}, (a, o) ∈ Y.mu V → a ∈ [Y.nl, 640, 588, Y.S1.ds, Y.S1.de, Y.S1.dv, Y.S2.ds, Y.S2.de, Y.S2.dv] → h'.get? a = some o ∧ a ≠ L ∧ g.get? a = none := fun {a o} hq ha => old (a, o) (hl _ (Two.inM hq)) fun (e : a = Y.hd) => n1 (e ▸ ha)
  refine ⟨one_keep F hn kb, fun q hq => ?_, ⟨W.off, he, W.no, W.D1, W.D2, W.b1, W.b2, W.ap⟩⟩
  rcases List.mem_append.mp hq with hq | hq
  · exact old q (ht q hq).2 fun e => (ht q hq).1 (e ▸ hhd)
  · rcases Two.mem_led.mp hq with hq | hq
    · refine Two.all_mu (P := fun q => h'.get? q.1 = some q.2 ∧ q.1 ≠ L ∧ g.get? q.1 = none) ⟨?_, ?_, ?_, ?_, ?_, ?_, ?_, ?_, ?_, ?_⟩ q hq
      · exact ⟨e, hn⟩
      all_goals exact mu (Two.im (by k_mem)) (by k_mem)
    · exact old q (hl q (Two.mem_led.mpr (.inr hq))) fun e => W.off q (List.mem_append.mpr hq) (e ▸ hhd)
theorem LW.setNo {no' : Obj} {t' t2' : Int} (nd : Y.Mut.Nodup) (W : LW prog w Y V lg fz k t t2 σ1 σ2 c1 c2) (F : Fr g L h m) (N : News g L h news) (TP : TmA Y.Mut (Y.led V lg fz) news tm) (kb : ∀ b o, h.get? b = some o → b ≠ Y.nl → h'.get? b = some o) (e : h'.get? Y.nl = some no') (he : ∃ u n0, no' = lstO [.int t' u] n0) (b1 : 0 ≤ t' ∧ t' < 2 ^ 20) (b2 : 0 ≤ t2' ∧ t2' < 2 ^ 29) :
    Fr g L h' m ∧ News g L h' (tm ++ Y.led ⟨V.ho, no', V.t, V.t5, V.s1, V.e1, V.v1, V.s2, V.e2, V.v2⟩ lg fz) ∧ LW prog w Y ⟨V.ho, no', V.t, V.t5, V.s1, V.e1, V.v1, V.s2, V.e2, V.v2⟩ lg fz k t' t2' σ1 σ2 c1 c2 := by
  obtain ⟨hl, ht⟩ := TP.mem
  have hhd : Y.nl ∈ Y.Mut := List.mem_cons_of_mem _ (List.mem_cons_self ..)
  have hn := mut_none (fun q hq => N q (hl q hq)) hhd
  have old : ∀ q ∈ news, q.1 ≠ Y.nl → h'.get? q.1 = some q.2 ∧ q.1 ≠ L ∧ g.get? q.1 = none := fun q hq hM => ⟨kb _ _ (N q hq).1 hM, (N q hq).2⟩
  have n0 := (List.nodup_cons.mp nd).1
  have n1 := (List.nodup_cons.mp (List.nodup_cons.mp nd).2).1
  have mu : ∀ {a : Addr} {o : Obj}, (a, o) ∈ Y.mu V → a ∈ [640, 588, Y.S1.ds, Y.S1.de, Y.S1.dv, Y.S2.ds, Y.S2.de, Y.S2.dv] → h'.get? a = some o ∧ a ≠ L ∧ g.get? a = none := fun {a o} hq ha => old (a, o) (hl _ (Two.inM hq)) fun (e : a = Y.nl) => n1 (e ▸ ha)
  refine ⟨one_keep F hn kb, fun q hq => ?_, ⟨W.off, W.ho, he, W.D1, W.D2, b1, b2, W.ap⟩⟩
  rcases List.mem_append.mp hq with hq | hq
  · exact old q (ht q hq).2 fun e => (ht q hq).1 (e ▸ hhd)
  · rcases Two.mem_led.mp hq with hq | hq
    · refine Two.all_mu (P := fun q => h'.get? q.1 = some q.2 ∧ q.1 ≠ L ∧ g.get? q.1 = none) ⟨?_, ?_, ?_, ?_, ?_, ?_, ?_, ?_, ?_, ?_⟩ q hq
      · exact old (Y.hd, V.ho) (hl _ (Two.inM (Two.im (by k_mem)))) fun (e : Y.hd = Y.nl) => n0 (e ▸ List.mem_cons_self ..)
      · exact ⟨e, hn⟩
      all_goals exact mu (Two.im (by k_mem)) (by k_mem)
    · exact old q (hl q (Two.mem_led.mpr (.inr hq))) fun e => W.off q (List.mem_append.mpr hq) (e ▸ hhd)
theorem next_law {vs : List Value} {ns : List Int} {many : Int} {u2 : Tok} (C : NextC K prog w) (G : LG prog w K p loose mean mg mb g env L Y fz ahead) (W : LW prog w Y V lg fz k t t2 σ1 σ2 c1 c2) (F : Fr g L s.heap m) (N : News g L s.heap news) (TP : TmA Y.Mut (Y.led V lg fz) news tm)
    (hscr : g.IsList Y.scr vs.toArray) (hI : IntsAre vs ns) (hns : ns.length ≤ 63) (k0 : 0 ≤ k) (k1 : k < 2 ^ 20) (m0 : 1 ≤ many) (m1 : many ≤ 100) (har : ArOk A 6)
    (ret : ∀ h' tk' r u V', Fr g L h' m → News g L h' (tm ++ Y.led V' lg fz) → LW prog w Y V' lg fz (k + 1) t t2 σ1 σ2 c1 c2 → 0 ≤ r → r < many → Q (.int r u) { s with heap := h', toks := tk' }) :
    wpAny (model prog w) A (call (.ref 700) [.ref Y.hd, .int many u2]) Q E s := by
  obtain ⟨hl, ht⟩ := TP.mem
  obtain ⟨u, n0, hho⟩ := W.ho
  have hm := N (Y.hd, V.ho) (hl _ (Two.inM (Two.im (by k_mem))))
  refine C p loose mg mb g A s Y.hd Y.scr vs ns k many u u2 n0 Q E F.keep hm.2.2 G.X (topRead_of G.T) (hho ▸ hm.1) hscr hI hns k0 k1 m0 m1 har fun h' tk' r u u' n' kk e0 r0 r1 => ?_
  obtain ⟨F', N', W'⟩ := LW.setHo G.nd W F N TP kk e0 ⟨_, _, rfl⟩
  exact ret h' tk' r u _ F' N' W' r0 r1
theorem now_get {value slice : PySem.Expr} {u : Tok} (W : LW prog w Y V lg fz k t t2 σ1 σ2 c1 c2) (N : News g L s.heap news) (TP : TmA Y.Mut (Y.led V lg fz) news tm) (ret : ∀ u, Q (.int t u) s)
    (hs : subscripted slice false (.ref Y.nl) (.int 0 u) = operate [.ref Y.nl, .int 0 u] (getItem (.ref Y.nl) (.int 0 u)) := by with_unfolding_all rfl) (hg : ∀ r, letTemporaryGo value (.ref Y.nl) r = pure () := by intro _; with_unfolding_all rfl) :
    wpAny (model prog w) A (subscriptTail value slice (.ref Y.nl) (.int 0 u)) Q E s := by
  obtain ⟨u', n0, hno⟩ := W.no
  have hm := N (Y.nl, V.no) (TP.mem.1 _ (Two.inM (Two.im (by k_mem))))
  exact lst_in (vs := [.int t u']) (n := n0) (hno ▸ hm.1) (by decide) (by decide) rfl (ret u') hs hg
theorem now_set {t' t2' : Int} {u u' : Tok} {Q : Unit → Shared → Prop} (nd : Y.Mut.Nodup) (W : LW prog w Y V lg fz k t t2 σ1 σ2 c1 c2) (F : Fr g L s.heap m) (N : News g L s.heap news) (TP : TmA Y.Mut (Y.led V lg fz) news tm) (b1 : 0 ≤ t' ∧ t' < 2 ^ 20) (b2 : 0 ≤ t2' ∧ t2' < 2 ^ 29)
    (ret : ∀ h' V', Fr g L h' m → News g L h' (tm ++ Y.led V' lg fz) → LW prog w Y V' lg fz k t' t2' σ1 σ2 c1 c2 → Q () { s with heap := h' }) :
    wpAny (model prog w) A (setItem (.ref Y.nl) (.int 0 u) (.int t' u')) Q E s := by
  obtain ⟨u0, n0, hno⟩ := W.no
  have hm := N (Y.nl, V.no) (TP.mem.1 _ (Two.inM (Two.im (by k_mem))))
  have hob : s.heap.get? Y.nl = some (listOf #[.int t u0] n0) := by
    have h0 := hm.1
    rw [hno] at h0
    exact h0
  refine ki_setAt hob (by decide) (by decide) (by show (0 : Int) < 1; decide) ?_
  have sb := Heap.SameBut.update (h := s.heap) (a := Y.nl) (f := Obj.mapSeq (·.setIfInBounds (0 : Int).toNat (.int t' u')))
  have q := PySem.IsL.update hob (·.setIfInBounds (0 : Int).toNat (.int t' u'))
  obtain ⟨F', N', W'⟩ := LW.setNo nd W F N TP (fun b o e hb => (sb.2 b hb).trans e) q ⟨_, _, rfl⟩ b1 b2
  exact ret _ _ F' N' W'
end

structure ItN (w : World) (Y : Two) (news : List (Addr × Obj)) (C it : Addr) (ns : Str) (amount length : Int) : Prop where
  ex : ∃ dx t1 t2 t3 t4 t5 t6, (it, instObj C dx) ∈ news ∧ (dx, dictOf (itDict w ns amount length t1 t2 t3 t4 t5 t6) 3) ∈ news ∧ it ∉ Y.Mut ∧ dx ∉ Y.Mut
structure ItF (w : World) (fz : List (Addr × Obj)) (C it : Addr) (ns : Str) (amount length : Int) : Prop where
  ex : ∃ dx t1 t2 t3 t4 t5 t6, (it, instObj C dx) ∈ fz ∧ (dx, dictOf (itDict w ns amount length t1 t2 t3 t4 t5 t6) 3) ∈ fz
structure LimsF (w : World) (fz : List (Addr × Obj)) (lims : Addr) (la : Int → Addr) (S : Ids) : Prop where
  l : ∃ n, (lims, lstO [.ref (la 0), .ref (la 1), .ref (la 2)] n) ∈ fz
  i : ∀ kind : Int, (kind = 0 ∨ kind = 1 ∨ kind = 2) → ∃ d t, (la kind, instObj (limC kind) d) ∈ fz ∧ (d, limD w t S.st) ∈ fz
structure ItB (K : Frag) (prog : Program) (w : World) (C : Addr) (sec : Int) : Prop where
  k : ItK K C
  e : ExpC K prog w C sec
section
variable {prog : Program} {w : World} {K : Frag} {p : Program} {loose : List Str} {mean : ExcName → Option Value} {mg mb : Str → Option Value} {g h h' : Heap} {env : Env} {L : Addr} {Y : Two} {V : Var} {lg fz tm news : List (Addr × Obj)} {ahead : Int} {k t t2 : Int} {σ1 σ2 σ' : St} {c1 c2 c' : Nat} {m : Str → Option Value} {s : Shared} {A : Around} {Q E : Value → Shared → Prop}
  {S : Ids} {C it tp lims : Addr} {ns gran : Str} {names : List Str} {amount length sec : Int} {vs : List Value} {la : Int → Addr}
theorem ItF.n (I : ItF w fz C it ns amount length) (W : LW prog w Y V lg fz k t t2 σ1 σ2 c1 c2) (TP : TmA Y.Mut (Y.led V lg fz) news tm) : ItN w Y news C it ns amount length :=
  ⟨ex7 (fun _ _ _ _ _ _ _ p => ⟨TP.mem.1 _ (Two.inF p.1), TP.mem.1 _ (Two.inF p.2), W.off _ (List.mem_append_right _ p.1), W.off _ (List.mem_append_right _ p.2)⟩) I.ex⟩
theorem base_sees (hS : ∀ a ∈ S.M, a ∈ Y.Mut) (F : Fr g L h m) (N : News g L h news) (TP : TmA Y.Mut (Y.led V lg fz) news tm) : (∀ b o, g.get? b = some o → (hideAll h (L :: S.M)).get? b = some o) ∧ ∀ q ∈ news, q.1 ∉ Y.Mut → (hideAll h (L :: S.M)).get? q.1 = some q.2 :=
  have z := law_base (S := S) F N fun a ha => mut_none (fun q hq => N q (TP.mem.1 q hq)) (hS a ha)
  ⟨z.1, fun q hq hM => z.2 q hq fun hm => hM (hS _ hm)⟩
theorem ita_law (hS : ∀ a ∈ S.M, a ∈ Y.Mut) (X : K.In g) (T : TopRead p loose mg mb g) (F : Fr g L h m) (N : News g L h news) (TP : TmA Y.Mut (Y.led V lg fz) news tm) (B : ItB K prog w C sec) (Kf : KfC K prog w C gran names) (I : ItN w Y news C it ns amount length) (htp : (tp, tupO vs) ∈ news) (htm : tp ∉ Y.Mut) (hvs : StrsAre vs names)
    (hns : ns.length ≤ 20) (a0 : 0 ≤ amount) (a1 : amount ≤ 50) (l0 : 0 ≤ length) (l1 : length ≤ 1000) (x0 : 1 ≤ sec * length) (x1 : sec * length ≤ 1000) (hk : (itKey ns names amount length gran).length ≤ 800) :
    ItA prog w K (hideAll h (L :: S.M)) it tp (itKey ns names amount length gran) amount (sec * length) := by
  obtain ⟨kg, kn⟩ := base_sees hS F N TP
  obtain ⟨dx, t1, t2, t3, t4, t5, t6, i1, i2, o1, o2⟩ := I.ex
  exact ita_of B.k B.e Kf kg X T ⟨⟨dx, t1, t2, t3, t4, t5, t6, kn (it, _) i1 o1, kn (dx, _) i2 o2, (N _ i1).2.2, (N _ i2).2.2⟩⟩ (N _ htp).2.2 (kn (tp, _) htp htm) hvs hns a0 a1 l0 l1 x0 x1 hk
theorem LimsF.of (I : LimsF w fz lims la S) (kn : ∀ q ∈ fz, h.get? q.1 = some q.2) : LimsI w h lims S := by
  obtain ⟨n, e⟩ := I.l
  refine ⟨la, n, kn (lims, _) e, fun kind hk => ?_⟩
  obtain ⟨d, t, a, b⟩ := I.i kind hk
  exact ⟨d, t, kn (la kind, _) a, kn (d, _) b⟩
theorem base_fz (hS : ∀ a ∈ S.M, a ∈ Y.Mut) (W : LW prog w Y V lg fz k t t2 σ1 σ2 c1 c2) (F : Fr g L h m) (N : News g L h news) (TP : TmA Y.Mut (Y.led V lg fz) news tm) : ∀ q ∈ fz, (hideAll h (L :: S.M)).get? q.1 = some q.2 :=
  fun q hq => (base_sees hS F N TP).2 q (TP.mem.1 q (Two.inF hq)) (W.off q (List.mem_append_right _ hq))
theorem law_meth {kind : Int} {f : Addr} {mn : Str} {pl : Sem Bool} {Q : Value × List Value → Shared → Prop} (M : LMeth K (limC kind) mn f) (F : Fr g L s.heap m) (X : K.In g) (N : News g L s.heap news) (TP : TmA Y.Mut (Y.led V lg fz) news tm) (hkd : kind = 0 ∨ kind = 1 ∨ kind = 2) (I : LimsF w fz lims la S) (h : Q (.ref f, [.ref (la kind)]) s) :
    wpAny (model prog w) A (getMethod (.ref (la kind)) mn pl) Q E s := by
  obtain ⟨d, t, i1, i2⟩ := I.i kind hkd
  exact method_inst F X ⟨(N _ (TP.mem.1 _ (Two.inF i1))).1, rfl, rfl, (N _ (TP.mem.1 _ (Two.inF i2))).1⟩ M.a M.b M.c (M.n w t _) h
theorem lim_law2 {f C lim : Addr} {key : Str} {ex cost : Int} {tc : Tok} {bs : Addr → Addr → Addr → Int → Tok → List (Str × Value)} {dc : Nat} {σ' : St → Int → Str → Int → Int → Int → St} {R : St → Int → Str → Int → Int → Int → Value → Heap → Heap → Prop} {pos : List Value} {kw : List (Str × Value)}
    (LK : LimK K prog w f C bs dc σ' R) (G : LG prog w K p loose mean mg mb g env L Y fz ahead) (W : LW prog w Y V lg fz k t (60 * t + ahead) σ1 σ2 c1 c2) (F : Fr g L s.heap m) (N : News g L s.heap news) (TP : TmA Y.Mut (Y.led V lg fz) news tm)
    (hl : LimI w (hideAll s.heap (L :: Y.S2.M)) C lim Y.S2) (I : ItA prog w K (hideAll s.heap (L :: Y.S2.M)) it tp key amount ex) (hen : ex ≤ 60 * t + ahead) (hc0 : 0 ≤ cost) (hc1 : cost ≤ 60) (hcc : c2 ≤ 79) (hb : BindK K f ⟨pos, kw⟩ (bs lim it tp cost tc))
    (ret : ∀ h' tk' v V' lg', Fr g L h' m → News g L h' (tm ++ Y.led V' lg' fz) → LW prog w Y V' lg' fz k t (60 * t + ahead) σ1 (σ' σ2 (60 * t + ahead) key amount ex cost) c1 (c2 + dc) → R σ2 (60 * t + ahead) key amount ex cost v h' s.heap → Q v { s with heap := h', toks := tk' }) :
    wpAny (model prog w) (callerA.deeper env) (call (.ref f) pos kw) Q E s :=
  wpAny_call (LK p loose mean mg mb Y.S2 (60 * t + ahead) _ _ s _ _ lim it tp key amount ex cost tc σ2 c2 lg ⟨pos, kw⟩ _ (G.sto2 W F fun q hq => N q (TP.mem.1 q hq)) hl I hen W.b2.2 hc0 hc1 hcc (hb s (G.X.keeps F.keep)) (ArOk.le (har_law env) (by decide)) fun h' tk' v O' lg' g' P r =>
    have z := LW.aft2 G W F N TP P
    ret h' tk' v _ _ z.1 z.2.1 z.2.2 r)
theorem step_law1 {key : Str} {ex cost deed kind : Int} {u1 u2 u3 : Tok} (C : StepC K prog w) (GK : LimG K prog w kind) (G : LG prog w K p loose mean mg mb g env L Y fz ahead) (W : LW prog w Y V lg fz k t (60 * t + ahead) σ1 σ2 c1 c2) (F : Fr g L s.heap m) (N : News g L s.heap news) (TP : TmA Y.Mut (Y.led V lg fz) news tm)
    (hl : LimsF w fz lims la Y.S1) (I : ItA prog w K (hideAll s.heap (L :: Y.S1.M)) it tp key amount ex) (hkd : kind = 0 ∨ kind = 1 ∨ kind = 2) (hen : ex ≤ t) (hc0 : 0 ≤ cost) (hc1 : cost ≤ 60) (hcc : c1 ≤ 79) (hd : 0 ≤ deed)
    (ret : ∀ h' tk' V' lg', Fr g L h' m → News g L h' (tm ++ Y.led V' lg' fz) → LW prog w Y V' lg' fz k t (60 * t + ahead) (sStep deed kind σ1 t key amount ex cost) σ2 (c1 + 1) c2 → Q (vStep deed kind σ1 t key amount ex cost) { s with heap := h', toks := tk' }) :
    wpAny (model prog w) (callerA.deeper env) (call (.ref 721) [.ref lims, .ref Y.S1.st, .int deed u1, .int kind u2, .ref it, .ref tp, .int cost u3]) Q E s :=
  C p loose mean mg mb Y.S1 t _ _ s _ _ lims it tp key amount ex cost deed kind u1 u2 u3 σ1 c1 lg Q E (G.sto1 W F fun q hq => N q (TP.mem.1 q hq)) (hl.of (base_fz (fun _ => Two.M1) W F N TP)) I hkd GK hen (by have := W.b1; (first | lia | omega)) hc0 hc1 hcc hd (ArOk.le (har_law env) (by decide)) fun h' tk' O' lg' g' P =>
    have z := LW.aft1 G W F N TP P
    ret h' tk' _ _ z.1 z.2.1 z.2.2
theorem step_law2 {key : Str} {ex cost deed kind : Int} {u1 u2 u3 : Tok} (C : StepC K prog w) (GK : LimG K prog w kind) (G : LG prog w K p loose mean mg mb g env L Y fz ahead) (W : LW prog w Y V lg fz k t (60 * t + ahead) σ1 σ2 c1 c2) (F : Fr g L s.heap m) (N : News g L s.heap news) (TP : TmA Y.Mut (Y.led V lg fz) news tm)
    (hl : LimsF w fz lims la Y.S2) (I : ItA prog w K (hideAll s.heap (L :: Y.S2.M)) it tp key amount ex) (hkd : kind = 0 ∨ kind = 1 ∨ kind = 2) (hen : ex ≤ 60 * t + ahead) (hc0 : 0 ≤ cost) (hc1 : cost ≤ 60) (hcc : c2 ≤ 79) (hd : 0 ≤ deed)
    (ret : ∀ h' tk' V' lg', Fr g L h' m → News g L h' (tm ++ Y.led V' lg' fz) → LW prog w Y V' lg' fz k t (60 * t + ahead) σ1 (sStep deed kind σ2 (60 * t + ahead) key amount ex cost) c1 (c2 + 1) → Q (vStep deed kind σ2 (60 * t + ahead) key amount ex cost) { s with heap := h', toks := tk' }) :
    wpAny (model prog w) (callerA.deeper env) (call (.ref 721) [.ref lims, .ref Y.S2.st, .int deed u1, .int kind u2, .ref it, .ref tp, .int cost u3]) Q E s :=
  C p loose mean mg mb Y.S2 (60 * t + ahead) _ _ s _ _ lims it tp key amount ex cost deed kind u1 u2 u3 σ2 c2 lg Q E (G.sto2 W F fun q hq => N q (TP.mem.1 q hq)) (hl.of (base_fz (fun _ => Two.M2) W F N TP)) I hkd GK hen W.b2.2 hc0 hc1 hcc hd (ArOk.le (har_law env) (by decide)) fun h' tk' O' lg' g' P =>
    have z := LW.aft2 G W F N TP P
    ret h' tk' _ _ z.1 z.2.1 z.2.2
theorem told_law (F : Fr g L h m) (N : News g L h news) {V' : Var} {lg' : List (Addr × Obj)} {tt tr : Addr} {ot or' : Obj} (hl : ∀ q ∈ Y.led V lg fz, q ∈ news) (N' : News g L h' (tm ++ Y.led V' lg' fz)) (e1 : h'.get? tt = some ot) (e2 : h'.get? tr = some or') (n1 : h.get? tt = none) (n2 : h.get? tr = none) :
    News g L h' ((tt, ot) :: (tr, or') :: (tm ++ Y.led V' lg' fz)) ∧ tt ∉ Y.Mut ∧ tr ∉ Y.Mut := by
  have off : ∀ {a : Addr}, h.get? a = none → a ∉ Y.Mut := fun {a} e hm => by
    obtain ⟨o, ho⟩ := Two.mu_ex V hm
    rw [(N _ (hl _ (Two.inM ho))).1] at e; cases e
  exact ⟨ncons (new_led F (fun _ e => e) e1 n1) (ncons (new_led F (fun _ e => e) e2 n2) N'), off n1, off n2⟩
theorem stats_law1 {key : Str} {ex kind : Int} {u2 : Tok} (C : StatsC K prog w) (GK : LimG K prog w kind) (G : LG prog w K p loose mean mg mb g env L Y fz ahead) (W : LW prog w Y V lg fz k t (60 * t + ahead) σ1 σ2 c1 c2) (F : Fr g L s.heap m) (N : News g L s.heap news) (TP : TmA Y.Mut (Y.led V lg fz) news tm)
    (hl : LimsF w fz lims la Y.S1) (I : ItA prog w K (hideAll s.heap (L :: Y.S1.M)) it tp key amount ex) (hkd : kind = 0 ∨ kind = 1 ∨ kind = 2) (hen : ex ≤ t) (hcc : c1 ≤ 79)
    (ret : ∀ h' tk' V' lg' tt tr w1 w2 w3, Fr g L h' m → News g L h' ((tt, tupO [.ref tr, .int (leftK kind σ1 t key amount ex) w3]) :: (tr, tupO [.int (resetK kind σ1 t key amount ex).1 w1, .int (resetK kind σ1 t key amount ex).2 w2]) :: (tm ++ Y.led V' lg' fz)) → tt ∉ Y.Mut → tr ∉ Y.Mut → LW prog w Y V' lg' fz k t (60 * t + ahead) (sTestK kind σ1 t key amount ex 0) σ2 c1 c2 → Q (.ref tt) { s with heap := h', toks := tk' }) :
    wpAny (model prog w) (callerA.deeper env) (call (.ref 714) [.ref lims, .int kind u2, .ref it, .ref tp]) Q E s :=
  C p loose mean mg mb Y.S1 t _ _ s _ _ lims it tp key amount ex kind u2 σ1 c1 lg Q E (G.sto1 W F fun q hq => N q (TP.mem.1 q hq)) (hl.of (base_fz (fun _ => Two.M1) W F N TP)) I hkd GK hen (by have := W.b1; (first | lia | omega)) hcc (ArOk.le (har_law env) (by decide)) fun h' tk' O' lg' g' tt tr w1 w2 w3 P e1 e2 n1 n2 =>
    have z := LW.aft1 G W F N TP P
    have y := told_law (V := V) (lg := lg) F N TP.mem.1 z.2.1 e1 e2 n1 n2
    ret h' tk' _ _ tt tr w1 w2 w3 z.1 y.1 y.2.1 y.2.2 z.2.2
theorem stats_law2 {key : Str} {ex kind : Int} {u2 : Tok} (C : StatsC K prog w) (GK : LimG K prog w kind) (G : LG prog w K p loose mean mg mb g env L Y fz ahead) (W : LW prog w Y V lg fz k t (60 * t + ahead) σ1 σ2 c1 c2) (F : Fr g L s.heap m) (N : News g L s.heap news) (TP : TmA Y.Mut (Y.led V lg fz) news tm)
    (hl : LimsF w fz lims la Y.S2) (I : ItA prog w K (hideAll s.heap (L :: Y.S2.M)) it tp key amount ex) (hkd : kind = 0 ∨ kind = 1 ∨ kind = 2) (hen : ex ≤ 60 * t + ahead) (hcc : c2 ≤ 79)
    (ret : ∀ h' tk' V' lg' tt tr w1 w2 w3, Fr g L h' m → News g L h' ((tt, tupO [.ref tr, .int (leftK kind σ2 (60 * t + ahead) key amount ex) w3]) :: (tr, tupO [.int (resetK kind σ2 (60 * t + ahead) key amount ex).1 w1, .int (resetK kind σ2 (60 * t + ahead) key amount ex).2 w2]) :: (tm ++ Y.led V' lg' fz)) → tt ∉ Y.Mut → tr ∉ Y.Mut → LW prog w Y V' lg' fz k t (60 * t + ahead) σ1 (sTestK kind σ2 (60 * t + ahead) key amount ex 0) c1 c2 → Q (.ref tt) { s with heap := h', toks := tk' }) :
    wpAny (model prog w) (callerA.deeper env) (call (.ref 714) [.ref lims, .int kind u2, .ref it, .ref tp]) Q E s :=
  C p loose mean mg mb Y.S2 (60 * t + ahead) _ _ s _ _ lims it tp key amount ex kind u2 σ2 c2 lg Q E (G.sto2 W F fun q hq => N q (TP.mem.1 q hq)) (hl.of (base_fz (fun _ => Two.M2) W F N TP)) I hkd GK hen W.b2.2 hcc (ArOk.le (har_law env) (by decide)) fun h' tk' O' lg' g' tt tr w1 w2 w3 P e1 e2 n1 n2 =>
    have z := LW.aft2 G W F N TP P
    have y := told_law (V := V) (lg := lg) F N TP.mem.1 z.2.1 e1 e2 n1 n2
    ret h' tk' _ _ tt tr w1 w2 w3 z.1 y.1 y.2.1 y.2.2 z.2.2
end

structure LM (m : Str → Option Value) (Y : Two) (am Ln : Int) (ua ul : Tok) (sec min it ot : Addr) : Prop where
  hand : m "hand" = some (.ref Y.hd)
  amount : m "amount" = some (.int am ua)
  length : m "length" = some (.int Ln ul)
  small : m "small" = some (.ref Y.S1.st)
  great : m "great" = some (.ref Y.S2.st)
  seconds : m "seconds" = some (.ref sec)
  minutes : m "minutes" = some (.ref min)
  item : m "item" = some (.ref it)
  other : m "other" = some (.ref ot)
noncomputable abbrev lmap (m : Str → Option Value) (Y : Two) (am Ln : Int) (ua ul : Tok) (sec min it ot : Addr) : Str → Option Value := fun y =>
  if y = "hand" then some (.ref Y.hd) else if y = "amount" then some (.int am ua) else if y = "length" then some (.int Ln ul) else if y = "small" then some (.ref Y.S1.st) else if y = "great" then some (.ref Y.S2.st) else
  if y = "seconds" then some (.ref sec) else if y = "minutes" then some (.ref min) else if y = "item" then some (.ref it) else if y = "other" then some (.ref ot) else m y
theorem LM.map {m : Str → Option Value} {Y : Two} {am Ln : Int} {ua ul : Tok} {sec min it ot : Addr} (M : LM m Y am Ln ua ul sec min it ot) : m = lmap m Y am Ln ua ul sec min it ot := by
  funext y
  by_cases h1 : y = "hand"
  · subst h1; exact M.hand
  by_cases h2 : y = "amount"
  · subst h2; exact M.amount
  by_cases h3 : y = "length"
  · subst h3; exact M.length
  by_cases h4 : y = "small"
  · subst h4; exact M.small
  by_cases h5 : y = "great"
  · subst h5; exact M.great
  by_cases h6 : y = "seconds"
  · subst h6; exact M.seconds
  by_cases h7 : y = "minutes"
  · subst h7; exact M.minutes
  by_cases h8 : y = "item"
  · subst h8; exact M.item
  by_cases h9 : y = "other"
  · subst h9; exact M.other
  unfold lmap
  rw [if_neg h1, if_neg h2, if_neg h3, if_neg h4, if_neg h5, if_neg h6, if_neg h7, if_neg h8, if_neg h9]
structure LZ (w : World) (fz : List (Addr × Obj)) (L : Addr) (Y : Two) (am Ln ahead : Int) (sec min it ot : Addr) (la lb : Int → Addr) : Prop where
  cn : ∃ o, (L + 1 + 1, o) ∈ fz ∧ o.data = .cell (some (.ref Y.nl))
  ca : ∃ o u, (L + 1, o) ∈ fz ∧ o.data = .cell (some (.int ahead u))
  l1 : LimsF w fz sec la Y.S1
  l2 : LimsF w fz min lb Y.S2
  i1 : ItF w fz 518 it "LIMITER" am Ln
  i2 : ItF w fz 501 ot "other" am Ln
  tb : ∃ ps, (723, tabObj ps) ∈ fz
structure LCs (K : Frag) (prog : Program) (w : World) : Prop where
  nx : NextC K prog w
  st : StepC K prog w
  ss : StatsC K prog w
  lg : ∀ kind : Int, (kind = 0 ∨ kind = 1 ∨ kind = 2) → LimG K prog w kind
  b1 : ItB K prog w 518 1
  b2 : ItB K prog w 501 60
  ka1 : KfC K prog w 518 "second" ["a"]
  ka2 : KfC K prog w 518 "second" ["a", "b"]
  kb1 : KfC K prog w 501 "minute" ["zz", "q"]
  kb2 : KfC K prog w 501 "minute" ["y"]
  ks1 : KfC K prog w 501 "minute" ["stranger"]
  ks2 : KfC K prog w 501 "minute" ["stranger", "q"]
  i3 : ItNewC K prog w 501 "third" (fun a l u1 u2 u3 => [.int a u1, .int l u2, .str "third" u3])
structure Fin3 (g h : Heap) : Prop where
  f : ∃ L m, Fr g L h m
  a : ∃ ps, h.get? 640 = some (tabObj ps)
  b : ∃ ps, h.get? 588 = some (tabObj ps)
  c : ∃ ps, h.get? 723 = some (tabObj ps)
theorem LamLg.tb {lg : List (Addr × Obj)} {pos : Pos} {qual : Str} {ot : Obj} (h : LamLg lg pos qual ot) : ∃ ps, ot = tabObj ps := by
  rcases h with e | ⟨c', oc, vs, t, e, _⟩
  · exact ⟨_, e⟩
  · exact ⟨_, e⟩
theorem fin3 {prog : Program} {w : World} {g h : Heap} {L : Addr} {m : Str → Option Value} {Y : Two} {V : Var} {lg fz : List (Addr × Obj)} {k t t2 : Int} {σ1 σ2 : St} {c1 c2 : Nat} (F : Fr g L h m) (N : News g L h (Y.led V lg fz)) (W : LW prog w Y V lg fz k t t2 σ1 σ2 c1 c2) (tb : ∃ ps, (723, tabObj ps) ∈ fz) : Fin3 g h := by
  obtain ⟨p1, e1⟩ := W.D1.t.tb
  obtain ⟨p2, e2⟩ := W.D1.t5.tb
  obtain ⟨p3, e3⟩ := tb
  have n1 := (N (640, V.t) (Two.inM (Two.im (by k_mem)))).1
  have n2 := (N (588, V.t5) (Two.inM (Two.im (by k_mem)))).1
  have n3 := (N (723, tabObj p3) (Two.inF e3)).1
  change V.t = _ at e1
  change V.t5 = _ at e2
  rw [e1] at n1
  rw [e2] at n2
  exact ⟨⟨_, _, F⟩, ⟨_, n1⟩, ⟨_, n2⟩, ⟨_, n3⟩⟩
noncomputable def LoopC (K : Frag) (prog : Program) (w : World) : Prop :=
  ∀ (p : Program) (loose : List Str) (mean : ExcName → Option Value) (mg mb : Str → Option Value) (g : Heap) (L : Addr) (s : Shared) (Y : Two) (V : Var) (fz : List (Addr × Obj)) (am Ln x : Int) (ua ul : Tok) (sec min it ot : Addr) (la lb : Int → Addr) (m : Str → Option Value) (vs : List Value) (ns : List Int) (Q : Flow → Shared → Prop) (E : Value → Shared → Prop)
    (fa : Addr) (name qual : Str) (params : Arguments) (body : List Stmt) (scope : Scope) (dV kV doc pm cdv ct oc : Value) (an od : Option Addr) (osl : Array (Option Value)) (st : Stmt),
    K.lookup 728 = some ⟨oc, od, .func (fnOf name qual params body scope dV kV doc pm an cdv ct), osl⟩ → body[11]? = some st →
    LG prog w K p loose mean mg mb g (envOfC qual scope L fa cdv) L Y fz (60 * Ln * (1 + x)) → LW prog w Y V [] fz 3 (Ln + 1) (60 * (Ln + 1) + 60 * Ln * (1 + x)) ⟨fun _ => none, fun _ => none, fun _ => none⟩ ⟨fun _ => none, fun _ => none, fun _ => none⟩ 0 0 →
    LZ w fz L Y am Ln (60 * Ln * (1 + x)) sec min it ot la lb → Fr g L s.heap m → News g L s.heap (Y.led V [] fz) → LM m Y am Ln ua ul sec min it ot → LCs K prog w →
    0 ≤ am → am < 6 → 1 ≤ Ln → Ln < 8 → 0 ≤ x → x < 9 → g.IsList Y.scr vs.toArray → IntsAre vs ns → ns.length ≤ 63 →
    (∀ h' tk', Fin3 g h' → Q .next { s with heap := h', toks := tk' }) → PassesOwn (model prog w) (callerA.deeper (envOfC qual scope L fa cdv)) (envOfC qual scope L fa cdv) E →
    wpAny (model prog w) (callerA.deeper (envOfC qual scope L fa cdv)) (exec st (envOfC qual scope L fa cdv)) Q E s
structure LJ (prog : Program) (w : World) (Y : Two) (fz : List (Addr × Obj)) (am Ln x : Int) (ua ul : Tok) (sec min it ot : Addr) (i : Nat) (m : Str → Option Value) (news : List (Addr × Obj)) : Prop where
  ex : ∃ V lg k t σ1 σ2, news = Y.led V lg fz ∧ LW prog w Y V lg fz k t (60 * t + 60 * Ln * (1 + x)) σ1 σ2 (i * 1) (i * 3) ∧ R2 am Ln x σ1 σ2 ∧ Ln ≤ t ∧ t ≤ 8 + 14 * i ∧ 0 ≤ k ∧ k ≤ 4 + 20 * i
  m : LM m Y am Ln ua ul sec min it ot
theorem rng_ok {r : Int} (h0 : 0 ≤ r) (h1 : r < 12) : Builtin.Range.small 0 r 1 = true ∧ Builtin.Range.rangeSize 0 r 1 = ((r.toNat : Nat) : Int) := by
  obtain ⟨k, rfl⟩ := Int.eq_ofNat_of_zero_le h0
  have z : ∀ k : Fin 12, Builtin.Range.small 0 (k.val : Int) 1 = true ∧ Builtin.Range.rangeSize 0 (k.val : Int) 1 = (((k.val : Int).toNat : Nat) : Int) := by decide
  exact z ⟨k, by (first | lia | omega)⟩

section
variable {prog : Program} {w : World} {K : Frag} {p : Program} {loose : List Str} {mean : ExcName → Option Value} {mg mb : Str → Option Value} {g h h' : Heap} {env : Env} {L : Addr} {Y : Two} {V : Var} {lg fz tm news : List (Addr × Obj)} {k t : Int} {σ1 σ2 : St} {c1 c2 : Nat} {m : Str → Option Value} {s : Shared} {A : Around} {Q E : Value → Shared → Prop}
  {it ot tp sec min : Addr} {ns : Str} {names : List Str} {am Ln x kind n deed cost : Int} {vs : List Value} {la lb : Int → Addr} {u1 u2 u3 : Tok}
theorem LimsF.at {S : Ids} {lims : Addr} (I : LimsF w fz lims la S) (kn : ∀ q ∈ fz, h.get? q.1 = some q.2) (hk : kind = 0 ∨ kind = 1 ∨ kind = 2) : LimI w h (limC kind) (la kind) S :=
  let ⟨d, t, a, b⟩ := I.i kind hk
  ⟨d, t, kn (la kind, _) a, kn (d, _) b⟩
theorem lim_pick {S : Ids} {lims : Addr} {value slice : PySem.Expr} {u : Tok} (I : LimsF w fz lims la S) (N : News g L s.heap news) (TP : TmA Y.Mut (Y.led V lg fz) news tm) (hk : kind = 0 ∨ kind = 1 ∨ kind = 2) (h : (kind = 0 ∨ kind = 1 ∨ kind = 2) → Q (.ref (la kind)) s)
    (hs : subscripted slice false (.ref lims) (.int kind u) = operate [.ref lims, .int kind u] (getItem (.ref lims) (.int kind u)) := by with_unfolding_all rfl) (hg : ∀ r, letTemporaryGo value (.ref lims) r = pure () := by intro _; with_unfolding_all rfl) :
    wpAny (model prog w) A (subscriptTail value slice (.ref lims) (.int kind u)) Q E s := by
  obtain ⟨n, e⟩ := I.l
  exact lst_in (N _ (TP.mem.1 _ (Two.inF e))).1 (by (first | lia | omega)) (by (first | lia | omega)) (la_idx hk) (h hk) hs hg
theorem pick2 {l a b : Addr} {n0 : Nat} {va vb : List Value} {na nb : List Str} {value slice : PySem.Expr} {u : Tok} (N : News g L s.heap news) (TP : TmA Y.Mut (Y.led V lg fz) news tm) (hl : (l, lstO [.ref a, .ref b] n0) ∈ news) (ha : (a, tupO va) ∈ news) (hb : (b, tupO vb) ∈ news) (sa : StrsAre va na) (sb : StrsAre vb nb) (oa : a ∉ Y.Mut) (ob : b ∉ Y.Mut) (hn : n = 0 ∨ n = 1)
    (h : ∀ tp vs, News g L s.heap ((tp, tupO vs) :: (tm ++ Y.led V lg fz)) → tp ∉ Y.Mut → StrsAre vs (if n = 0 then na else nb) → Q (.ref tp) s)
    (hs : subscripted slice false (.ref l) (.int n u) = operate [.ref l, .int n u] (getItem (.ref l) (.int n u)) := by with_unfolding_all rfl) (hg : ∀ r, letTemporaryGo value (.ref l) r = pure () := by intro _; with_unfolding_all rfl) :
    wpAny (model prog w) A (subscriptTail value slice (.ref l) (.int n u)) Q E s := by
  have keep : ∀ {tp vs}, (tp, tupO vs) ∈ news → News g L s.heap ((tp, tupO vs) :: (tm ++ Y.led V lg fz)) := fun hm => ncons (N _ hm) fun q hq => by
    rcases List.mem_append.mp hq with hq | hq
    · exact N q (TP.mem.2 q hq).2
    · exact N q (TP.mem.1 q hq)
  rcases hn with rfl | rfl
  · exact lst_in (N _ hl).1 (by decide) (by decide) rfl (h a va (keep ha) oa sa) hs hg
  · exact lst_in (N _ hl).1 (by decide) (by decide) rfl (h b vb (keep hb) ob sb) hs hg
structure LB (am Ln x t : Int) (c1 c2 : Nat) : Prop where
  a0 : 0 ≤ am
  a1 : am < 6
  l0 : 1 ≤ Ln
  l1 : Ln < 8
  x0 : 0 ≤ x
  tl : Ln ≤ t
  q1 : c1 ≤ 79
  q2 : c2 ≤ 79
theorem LB.e2 (B : LB am Ln x t c1 c2) : 60 * Ln ≤ 60 * t + 60 * Ln * (1 + x) := by
  have := a_nonneg (L := Ln) (x := x) (by have := B.l0; (first | lia | omega)) B.x0
  have := B.tl
  (first | lia | omega)
theorem ita2 (CC : LCs K prog w) (B : LB am Ln x t c1 c2) (X : K.In g) (T : TopRead p loose mg mb g) (F : Fr g L h m) (N : News g L h news) (TP : TmA Y.Mut (Y.led V lg fz) news tm) (Kf : KfC K prog w 501 "minute" names) (I : ItN w Y news 501 it ns am Ln) (htp : (tp, tupO vs) ∈ news) (htm : tp ∉ Y.Mut) (hvs : StrsAre vs names) (hns : ns.length ≤ 20) (hk : (itKey ns names am Ln "minute").length ≤ 100) :
    ItA prog w K (hideAll h (L :: Y.S2.M)) it tp (itKey ns names am Ln "minute") am (60 * Ln) := by
  have := B.a0; have := B.a1; have := B.l0; have := B.l1
  exact ita_law (fun _ => Two.M2) X T F N TP CC.b2 Kf I htp htm hvs hns (by (first | lia | omega)) (by (first | lia | omega)) (by (first | lia | omega)) (by (first | lia | omega)) (by (first | lia | omega)) (by (first | lia | omega)) (by (first | lia | omega))
theorem ita1 (CC : LCs K prog w) (B : LB am Ln x t c1 c2) (X : K.In g) (T : TopRead p loose mg mb g) (F : Fr g L h m) (N : News g L h news) (TP : TmA Y.Mut (Y.led V lg fz) news tm) (Kf : KfC K prog w 518 "second" names) (I : ItN w Y news 518 it ns am Ln) (htp : (tp, tupO vs) ∈ news) (htm : tp ∉ Y.Mut) (hvs : StrsAre vs names) (hns : ns.length ≤ 20) (hk : (itKey ns names am Ln "second").length ≤ 100) :
    ItA prog w K (hideAll h (L :: Y.S1.M)) it tp (itKey ns names am Ln "second") am Ln := by
  have := B.a0; have := B.a1; have := B.l0; have := B.l1
  have z := ita_law (fun _ => Two.M1) X T F N TP CC.b1 Kf I htp htm hvs hns (by (first | lia | omega)) (by (first | lia | omega)) (by (first | lia | omega)) (by (first | lia | omega)) (by (first | lia | omega)) (by (first | lia | omega)) (by (first | lia | omega))
  rw [Int.one_mul] at z
  exact z
structure Str2 (K : Frag) (prog : Program) (w : World) (Y : Two) (news : List (Addr × Obj)) (it tp : Addr) (am Ln : Int) : Prop where
  ex : ∃ ns names vs, KfC K prog w 501 "minute" names ∧ ItN w Y news 501 it ns am Ln ∧ (tp, tupO vs) ∈ news ∧ tp ∉ Y.Mut ∧ StrsAre vs names ∧ ns.length ≤ 20 ∧ (itKey ns names am Ln "minute").length ≤ 100 ∧ Dif (itKey ns names am Ln "minute") (kB 0 am Ln) ∧ Dif (itKey ns names am Ln "minute") (kB 1 am Ln)
theorem str_law {f : Addr} {bs : Addr → Addr → Addr → Int → Tok → List (Str × Value)} {dc : Nat} {tc : Tok} {σ' : St → Int → Str → Int → Int → Int → St} {RR : St → Int → Str → Int → Int → Int → Value → Heap → Heap → Prop} {pos : List Value} {kw : List (Str × Value)}
    (LK : LimK K prog w f (limC kind) bs dc σ' RR) (ho : ∀ σ now key a e c, Off key σ (σ' σ now key a e c)) (CC : LCs K prog w) (B : LB am Ln x t c1 c2) (G : LG prog w K p loose mean mg mb g env L Y fz (60 * Ln * (1 + x))) (W : LW prog w Y V lg fz k t (60 * t + 60 * Ln * (1 + x)) σ1 σ2 c1 c2) (R : R2 am Ln x σ1 σ2) (I2 : LimsF w fz min lb Y.S2) (hkd : kind = 0 ∨ kind = 1 ∨ kind = 2)
    (F : Fr g L s.heap m) (N : News g L s.heap news) (TP : TmA Y.Mut (Y.led V lg fz) news tm) (I : Str2 K prog w Y news it tp am Ln) (hc0 : 0 ≤ cost) (hc1 : cost ≤ 60) (hb : BindK K f ⟨pos, kw⟩ (bs (lb kind) it tp cost tc))
    (ret : ∀ h' tk' v V' lg' σ2', Fr g L h' m → News g L h' (tm ++ Y.led V' lg' fz) → LW prog w Y V' lg' fz k t (60 * t + 60 * Ln * (1 + x)) σ1 σ2' c1 (c2 + dc) → R2 am Ln x σ1 σ2' → Q v { s with heap := h', toks := tk' }) :
    wpAny (model prog w) (callerA.deeper env) (call (.ref f) pos kw) Q E s := by
  obtain ⟨ns, names, vs, Kf, In, htp, htm, hvs, hns, hk, d0, d1⟩ := I.ex
  exact lim_law2 LK G W F N TP (I2.at (base_fz (fun _ => Two.M2) W F N TP) hkd) (ita2 CC B G.X (topRead_of G.T) F N TP Kf In htp htm hvs hns hk) B.e2 hc0 hc1 B.q2 hb
    fun h' tk' v V' lg' F' N' W' _ => ret h' tk' v V' lg' _ F' N' W' (R.strange (ho _ _ _ _ _ _) d0 d1)
theorem step1 (CC : LCs K prog w) (B : LB am Ln x t c1 c2) (G : LG prog w K p loose mean mg mb g env L Y fz (60 * Ln * (1 + x))) (W : LW prog w Y V lg fz k t (60 * t + 60 * Ln * (1 + x)) σ1 σ2 c1 c2) (I1 : LimsF w fz sec la Y.S1) (hkd : kind = 0 ∨ kind = 1 ∨ kind = 2) (hn : n = 0 ∨ n = 1) (ks : KsL am Ln)
    (F : Fr g L s.heap m) (N : News g L s.heap news) (TP : TmA Y.Mut (Y.led V lg fz) news tm) (I : ItF w fz 518 it "LIMITER" am Ln) (htp : (tp, tupO vs) ∈ news) (htm : tp ∉ Y.Mut) (hvs : StrsAre vs (mineN n)) (hc0 : 0 ≤ cost) (hc1 : cost ≤ 60) (hd : 0 ≤ deed)
    (ret : ∀ h' tk' V' lg', Fr g L h' m → News g L h' (tm ++ Y.led V' lg' fz) → LW prog w Y V' lg' fz k t (60 * t + 60 * Ln * (1 + x)) (sStep deed kind σ1 t (kA n am Ln) am Ln cost) σ2 (c1 + 1) c2 → Q (vStep deed kind σ1 t (kA n am Ln) am Ln cost) { s with heap := h', toks := tk' }) :
    wpAny (model prog w) (callerA.deeper env) (call (.ref 721) [.ref sec, .ref Y.S1.st, .int deed u1, .int kind u2, .ref it, .ref tp, .int cost u3]) Q E s := by
  have Kf : KfC K prog w 518 "second" (mineN n) := by
    rcases hn with rfl | rfl
    · exact CC.ka1
    · exact CC.ka2
  have hk : (kA n am Ln).length ≤ 100 := by
    rcases hn with rfl | rfl
    · exact ks.la0
    · exact ks.la1
  exact step_law1 CC.st (CC.lg kind hkd) G W F N TP I1 (ita1 CC B G.X (topRead_of G.T) F N TP Kf (I.n W TP) htp htm hvs (by decide) hk) hkd B.tl hc0 hc1 B.q1 hd ret
theorem step2 {σo : St} (CC : LCs K prog w) (B : LB am Ln x t c1 c2) (G : LG prog w K p loose mean mg mb g env L Y fz (60 * Ln * (1 + x))) (W : LW prog w Y V lg fz k t (60 * t + 60 * Ln * (1 + x)) (sStep deed kind σo t (kA n am Ln) am Ln cost) σ2 c1 c2) (R : R2 am Ln x σo σ2) (I2 : LimsF w fz min lb Y.S2) (hkd : kind = 0 ∨ kind = 1 ∨ kind = 2) (hn : n = 0 ∨ n = 1) (ks : KsL am Ln)
    (F : Fr g L s.heap m) (N : News g L s.heap news) (TP : TmA Y.Mut (Y.led V lg fz) news tm) (I : ItF w fz 501 it "other" am Ln) (htp : (tp, tupO vs) ∈ news) (htm : tp ∉ Y.Mut) (hvs : StrsAre vs (yourN n)) (hc0 : 0 ≤ cost) (hc1 : cost ≤ 60) (hd : 0 ≤ deed)
    (ret : ∀ h' tk' V' lg' σ1' σ2', Fr g L h' m → News g L h' (tm ++ Y.led V' lg' fz) → LW prog w Y V' lg' fz k t (60 * t + 60 * Ln * (1 + x)) σ1' σ2' c1 (c2 + 1) → R2 am Ln x σ1' σ2' → Q (vStep deed kind σo t (kA n am Ln) am Ln cost) { s with heap := h', toks := tk' }) :
    wpAny (model prog w) (callerA.deeper env) (call (.ref 721) [.ref min, .ref Y.S2.st, .int deed u1, .int kind u2, .ref it, .ref tp, .int cost u3]) Q E s := by
  have Kf : KfC K prog w 501 "minute" (yourN n) := by
    rcases hn with rfl | rfl
    · exact CC.kb1
    · exact CC.kb2
  have hk : (kB n am Ln).length ≤ 100 := by
    rcases hn with rfl | rfl
    · exact ks.lb0
    · exact ks.lb1
  have b1 := W.b1
  have z := R.step (deed := deed) (c := cost) ks hn hkd (t := t) (by have := B.l0; (first | lia | omega)) b1.1 B.x0
  refine step_law2 CC.st (CC.lg kind hkd) G W F N TP I2 (ita2 CC B G.X (topRead_of G.T) F N TP Kf (I.n W TP) htp htm hvs (by decide) hk) hkd B.e2 hc0 hc1 B.q2 hd fun h' tk' V' lg' F' N' W' => ?_
  rw [show itKey "other" (yourN n) am Ln "minute" = kB n am Ln from rfl] at *
  rw [z.1]
  exact ret h' tk' V' lg' _ _ F' N' W' z.2
theorem reset_le {c : Nat} (hkd : kind = 0 ∨ kind = 1 ∨ kind = 2) (B : Bd σ1 c) (hc : c ≤ 80) {key : Str} : (resetK kind σ1 t key am Ln).2 ≤ 80000 := by
  unfold resetK
  rcases hkd with rfl | rfl | rfl
  · show (1 : Int) ≤ 80000; decide
  · show (1 : Int) ≤ 80000; decide
  · simp only [K2]
    have := B.pc (fe := σ1.fe) (now := t) (k := kP key t Ln)
    unfold reset2
    dsimp only
    by_cases h : iPc σ1.fs σ1.fe t (kP key t Ln) = 0
    · rw [if_pos h]; split <;> (show (1 : Int) ≤ 80000; decide)
    · rw [if_neg h]; show iPc σ1.fs σ1.fe t (kP key t Ln) ≤ 80000; (first | lia | omega)
structure SP (kind : Int) (σo : St) (t n am Ln : Int) (σ1 : St) (l r q : Int) : Prop where
  s : sTestK kind σo t (kA n am Ln) am Ln 0 = σ1
  l : leftK kind σo t (kA n am Ln) am Ln = l
  r : (resetK kind σo t (kA n am Ln) am Ln).1 = r
  q : (resetK kind σo t (kA n am Ln) am Ln).2 = q
theorem stats1 (CC : LCs K prog w) (B : LB am Ln x t c1 c2) (G : LG prog w K p loose mean mg mb g env L Y fz (60 * Ln * (1 + x))) (W : LW prog w Y V lg fz k t (60 * t + 60 * Ln * (1 + x)) σ1 σ2 c1 c2) (I1 : LimsF w fz sec la Y.S1) (hkd : kind = 0 ∨ kind = 1 ∨ kind = 2) (hn : n = 0 ∨ n = 1) (ks : KsL am Ln)
    (F : Fr g L s.heap m) (N : News g L s.heap news) (TP : TmA Y.Mut (Y.led V lg fz) news tm) (I : ItF w fz 518 it "LIMITER" am Ln) (htp : (tp, tupO vs) ∈ news) (htm : tp ∉ Y.Mut) (hvs : StrsAre vs (mineN n))
    (ret : ∀ h' tk' V' lg' tt tr w1 w2 w3 σ1' l r q, SP kind σ1 t n am Ln σ1' l r q → Fr g L h' m → News g L h' ((tt, tupO [.ref tr, .int l w3]) :: (tr, tupO [.int r w1, .int q w2]) :: (tm ++ Y.led V' lg' fz)) → tt ∉ Y.Mut → tr ∉ Y.Mut →
      LW prog w Y V' lg' fz k t (60 * t + 60 * Ln * (1 + x)) σ1' σ2 c1 c2 → 1 ≤ q ∧ q ≤ 80000 → Q (.ref tt) { s with heap := h', toks := tk' }) :
    wpAny (model prog w) (callerA.deeper env) (call (.ref 714) [.ref sec, .int kind u2, .ref it, .ref tp]) Q E s := by
  have Kf : KfC K prog w 518 "second" (mineN n) := by
    rcases hn with rfl | rfl
    · exact CC.ka1
    · exact CC.ka2
  have hk : (kA n am Ln).length ≤ 100 := by
    rcases hn with rfl | rfl
    · exact ks.la0
    · exact ks.la1
  exact stats_law1 CC.ss (CC.lg kind hkd) G W F N TP I1 (ita1 CC B G.X (topRead_of G.T) F N TP Kf (I.n W TP) htp htm hvs (by decide) hk) hkd B.tl B.q1 fun h' tk' V' lg' tt tr w1 w2 w3 F' N' o1 o2 W' =>
    ret h' tk' V' lg' tt tr w1 w2 w3 _ _ _ _ ⟨rfl, rfl, rfl, rfl⟩ F' N' o1 o2 W' ⟨reset_pos hkd W.D1.b, reset_le hkd W.D1.b W.D1.hc⟩
theorem stats2 {σo : St} {l r q : Int} (CC : LCs K prog w) (B : LB am Ln x t c1 c2) (G : LG prog w K p loose mean mg mb g env L Y fz (60 * Ln * (1 + x))) (W : LW prog w Y V lg fz k t (60 * t + 60 * Ln * (1 + x)) σ1 σ2 c1 c2) (e1 : SP kind σo t n am Ln σ1 l r q) (R : R2 am Ln x σo σ2) (I2 : LimsF w fz min lb Y.S2) (hkd : kind = 0 ∨ kind = 1 ∨ kind = 2) (hn : n = 0 ∨ n = 1) (ks : KsL am Ln)
    (F : Fr g L s.heap m) (N : News g L s.heap news) (TP : TmA Y.Mut (Y.led V lg fz) news tm) (I : ItF w fz 501 it "other" am Ln) (htp : (tp, tupO vs) ∈ news) (htm : tp ∉ Y.Mut) (hvs : StrsAre vs (yourN n))
    (ret : ∀ h' tk' V' lg' tt tr w1 w2 w3 σ2', Fr g L h' m → News g L h' ((tt, tupO [.ref tr, .int l w3]) :: (tr, tupO [.int (60 * r + 60 * Ln * (1 + x) * q) w1, .int q w2]) :: (tm ++ Y.led V' lg' fz)) → tt ∉ Y.Mut → tr ∉ Y.Mut →
      LW prog w Y V' lg' fz k t (60 * t + 60 * Ln * (1 + x)) σ1 σ2' c1 c2 → R2 am Ln x σ1 σ2' → Q (.ref tt) { s with heap := h', toks := tk' }) :
    wpAny (model prog w) (callerA.deeper env) (call (.ref 714) [.ref min, .int kind u2, .ref it, .ref tp]) Q E s := by
  have Kf : KfC K prog w 501 "minute" (yourN n) := by
    rcases hn with rfl | rfl
    · exact CC.kb1
    · exact CC.kb2
  have hk : (kB n am Ln).length ≤ 100 := by
    rcases hn with rfl | rfl
    · exact ks.lb0
    · exact ks.lb1
  have b1 := W.b1
  have hL : 0 < Ln := by have := B.l0; (first | lia | omega)
  have z := R.stats (c := 0) ks hn hkd (t := t) hL b1.1 B.x0
  have zl := rp_left (am := am) hkd (R.at hn) hL b1.1 B.x0
  have zr := rp_reset (am := am) hkd (R.at hn) hL b1.1 B.x0
  refine stats_law2 CC.ss (CC.lg kind hkd) G W F N TP I2 (ita2 CC B G.X (topRead_of G.T) F N TP Kf (I.n W TP) htp htm hvs (by decide) hk) hkd B.e2 B.q2 fun h' tk' V' lg' tt tr w1 w2 w3 F' N' o1 o2 W' => ?_
  rw [show itKey "other" (yourN n) am Ln "minute" = kB n am Ln from rfl] at *
  rw [zl, zr.1, zr.2] at N'
  obtain ⟨rfl, rfl, rfl, rfl⟩ := e1
  exact ret h' tk' V' lg' tt tr w1 w2 w3 _ F' N' o1 o2 W' z
end

section
variable {prog : Program} {w : World} {K : Frag} {g h : Heap} {L : Addr} {Y : Two} {V : Var} {lg fz tm news : List (Addr × Obj)} {k t t2 : Int} {σ σ1 σ2 : St} {c1 c2 : Nat} {s : Shared} {A : Around} {Q E : Value → Shared → Prop}
  {am Ln ahead deed kind now ex cost n : Int} {key : Str} {tp ot sec min it d : Addr} {la lb : Int → Addr} {u u' : Tok} {vs : List Value}
theorem vne (h : Q (.bool false) s) : wpAny (model prog w) A (compareOp .NotEq (vStep deed kind σ now key am ex cost) (vStep deed kind σ now key am ex cost)) Q E s := by
  have b : ∀ r : Bool, wpAny (model prog w) A (compareOp .NotEq (.bool r) (.bool r)) Q E s := fun r => PySem.EqBoolInt.of_rcne (SeqAt.RcNeAt.bool_bool r r) (by cases r <;> exact h)
  have n : wpAny (model prog w) A (compareOp .NotEq .none .none) Q E s := PySem.EqBoolInt.of_rcne SeqAt.RcNeAt.none_none h
  unfold vStep
  split
  · exact b _
  · split
    · exact n
    · split
      · exact n
      · exact b _
theorem visb (h : ∀ tk, Q (.bool (!(decide (deed = 1 ∨ deed = 2)))) { s with toks := tk }) : wpAny (model prog w) A (call (.builtin "isinstance") [vStep deed kind σ now key am ex cost, .type "bool"]) Q E s := by
  unfold vStep
  by_cases h0 : deed = 0
  · rw [if_pos h0]
    have := h s.toks
    rw [show decide (deed = 1 ∨ deed = 2) = false from by simp [h0]] at this
    exact PySem.IsiPair.bool_bool this
  · rw [if_neg h0]
    by_cases h1 : deed = 1
    · rw [if_pos h1]
      have := h (s.toks + 1)
      rw [show decide (deed = 1 ∨ deed = 2) = true from by simp [h1]] at this
      exact PySem.IsiPair.NoneType_bool this
    · rw [if_neg h1]
      by_cases h2 : deed = 2
      · rw [if_pos h2]
        have := h (s.toks + 1)
        rw [show decide (deed = 1 ∨ deed = 2) = true from by simp [h2]] at this
        exact PySem.IsiPair.NoneType_bool this
      · rw [if_neg h2]
        have := h s.toks
        rw [show decide (deed = 1 ∨ deed = 2) = false from by simp [h1, h2]] at this
        exact PySem.IsiPair.bool_bool this
theorem ine_self {i : Int} (h : Q (.bool false) s) : wpAny (model prog w) A (compareOp .NotEq (.int i u) (.int i u')) Q E s := PySem.EqBoolInt.of_rcne (SeqAt.RcNeAt.int_int i u i u') (by rw [show (!(i == i)) = false by simp]; exact h)
theorem Str2.s1 (CC : LCs K prog w) (ks : KsL am Ln) (I : ItF w fz 501 ot "other" am Ln) (W : LW prog w Y V lg fz k t t2 σ1 σ2 c1 c2) (TP : TmA Y.Mut (Y.led V lg fz) news tm) (htp : (tp, tupO [.str "stranger" u]) ∈ news) (htm : tp ∉ Y.Mut) : Str2 K prog w Y news ot tp am Ln :=
  ⟨⟨_, _, _, CC.ks1, I.n W TP, htp, htm, .cons _ _ .nil, by decide, ks.ls1, ks.s10, ks.s11⟩⟩
theorem Str2.s2 (CC : LCs K prog w) (ks : KsL am Ln) (I : ItF w fz 501 ot "other" am Ln) (W : LW prog w Y V lg fz k t t2 σ1 σ2 c1 c2) (TP : TmA Y.Mut (Y.led V lg fz) news tm) (htp : (tp, tupO [.str "stranger" u, .str "q" u']) ∈ news) (htm : tp ∉ Y.Mut) : Str2 K prog w Y news ot tp am Ln :=
  ⟨⟨_, _, _, CC.ks2, I.n W TP, htp, htm, .cons _ _ (.cons _ _ .nil), by decide, ks.ls2, ks.s20, ks.s21⟩⟩
theorem Str2.s3 (CC : LCs K prog w) (ks : KsL am Ln) (hn : n = 0 ∨ n = 1) {t1 u2 t3 t4 t5 t6 : Tok} (i1 : (it, instObj 501 d) ∈ news) (i2 : (d, dictOf (itDict w "third" am Ln t1 u2 t3 t4 t5 t6) 3) ∈ news) (o1 : it ∉ Y.Mut) (o2 : d ∉ Y.Mut) (htp : (tp, tupO vs) ∈ news) (htm : tp ∉ Y.Mut) (hvs : StrsAre vs (yourN n)) : Str2 K prog w Y news it tp am Ln := by
  rcases hn with rfl | rfl
  · exact ⟨⟨_, _, _, CC.kb1, ⟨⟨d, _, _, _, _, _, _, i1, i2, o1, o2⟩⟩, htp, htm, hvs, by decide, ks.lt0, ks.t00, ks.t01⟩⟩
  · exact ⟨⟨_, _, _, CC.kb2, ⟨⟨d, _, _, _, _, _, _, i1, i2, o1, o2⟩⟩, htp, htm, hvs, by decide, ks.lt1, ks.t10, ks.t11⟩⟩
theorem hop_ok {r : Int} (h0 : 0 ≤ r) (h1 : r < 5) (l0 : 1 ≤ Ln) (l1 : Ln < 8) : 0 ≤ [0, 1, Ln, Ln - 1, 2 * Ln].getD r.toNat 0 ∧ [0, 1, Ln, Ln - 1, 2 * Ln].getD r.toNat 0 ≤ 14 := by
  have : r = 0 ∨ r = 1 ∨ r = 2 ∨ r = 3 ∨ r = 4 := by (first | lia | omega)
  rcases this with rfl | rfl | rfl | rfl | rfl
  · show (0 : Int) ≤ 0 ∧ (0 : Int) ≤ 14; (first | lia | omega)
  · show (0 : Int) ≤ 1 ∧ (1 : Int) ≤ 14; (first | lia | omega)
  · show 0 ≤ Ln ∧ Ln ≤ 14; (first | lia | omega)
  · show 0 ≤ Ln - 1 ∧ Ln - 1 ≤ 14; (first | lia | omega)
  · show 0 ≤ 2 * Ln ∧ 2 * Ln ≤ 14; (first | lia | omega)
theorem cost_ok {r : Int} (h0 : 0 ≤ r) (h1 : r < 6) (l0 : 0 ≤ am) (l1 : am < 6) : 0 ≤ [1, 1, 2, 0, am, am + 1].getD r.toNat 0 ∧ [1, 1, 2, 0, am, am + 1].getD r.toNat 0 ≤ 60 := by
  have : r = 0 ∨ r = 1 ∨ r = 2 ∨ r = 3 ∨ r = 4 ∨ r = 5 := by (first | lia | omega)
  rcases this with rfl | rfl | rfl | rfl | rfl | rfl
  · show (0 : Int) ≤ 1 ∧ (1 : Int) ≤ 60; (first | lia | omega)
  · show (0 : Int) ≤ 1 ∧ (1 : Int) ≤ 60; (first | lia | omega)
  · show (0 : Int) ≤ 2 ∧ (2 : Int) ≤ 60; (first | lia | omega)
  · show (0 : Int) ≤ 0 ∧ (0 : Int) ≤ 60; (first | lia | omega)
  · show 0 ≤ am ∧ am ≤ 60; (first | lia | omega)
  · show 0 ≤ am + 1 ∧ am + 1 ≤ 60; (first | lia | omega)
end
structure BT (K : Frag) (kind : Int) (tc : Tok) : Prop where
  h : ∀ (lim it tp : Addr), BindK K (fTest kind) ⟨[.ref lim, .ref it, .ref tp], []⟩ (b4 lim it tp 1 tc)
theorem isb_eq {deed : Int} : ((!decide (deed = 1 ∨ deed = 2)) != ![(1 : Int), 2].any fun x => x == deed) = false := by
  by_cases h1 : deed = 1
  · subst h1; rfl
  by_cases h2 : deed = 2
  · subst h2; rfl
  have e1 : ((1 : Int) == deed) = false := by simpa using fun e => h1 e.symm
  have e2 : ((2 : Int) == deed) = false := by simpa using fun e => h2 e.symm
  simp [h1, h2, e1, e2]
theorem Two.notMut2 {Y : Two} {V : Var} {lg fz : List (Addr × Obj)} {d x : Addr} (l : @LT.lt Nat _ d x) (h : AllLt d (Y.led V lg fz)) : x ∉ Y.Mut := fun hm => by
  obtain ⟨o, ho⟩ := Two.mu_ex V hm
  exact absurd (Nat.lt_trans (allLt_mem h _ (Two.inM ho)) l) (Nat.lt_irrefl _)
theorem Two.notMutA {Y : Two} {V : Var} {lg fz : List (Addr × Obj)} {d : Addr} (h : ∀ p ∈ Y.led V lg fz, p.1 < d) : d ∉ Y.Mut := Two.notMut (allLt_of h)
section
variable {prog : Program} {w : World} {K : Frag} {p : Program} {loose : List Str} {mean : ExcName → Option Value} {mg mb : Str → Option Value} {g h : Heap} {env : Env} {L : Addr} {Y : Two} {V : Var} {lg fz pre : List (Addr × Obj)} {ahead am Ln k t t2 : Int} {σ1 σ2 : St} {c1 c2 : Nat} {sec min it ot I : Addr} {la lb : Int → Addr} {oI : Obj}
theorem LG.more {fz' : List (Addr × Obj)} (G : LG prog w K p loose mean mg mb g env L Y fz ahead) (s : ∀ q ∈ fz, q ∈ fz') : LG prog w K p loose mean mg mb g env L Y fz' ahead :=
  ⟨G.X, G.T, G.C1, G.C2, G.hf, G.hk, G.nd, G.o1, G.o15, G.o2, G.o25, s _ G.a1, s _ G.d1, s _ G.a2, s _ G.d2, let ⟨c, dd, fd, sl, e⟩ := G.f1; ⟨c, dd, fd, sl, s _ e⟩, let ⟨c, dd, fd, sl, e⟩ := G.f2; ⟨c, dd, fd, sl, s _ e⟩,
    fun b t u n0 kg kf => G.k1 b t u n0 kg fun q hq => kf q (s q hq), fun b t u n0 kg kf => G.k2 b t u n0 kg fun q hq => kf q (s q hq)⟩
theorem LimsF.more {fz' : List (Addr × Obj)} {lims : Addr} {S : Ids} (I : LimsF w fz lims la S) (s : ∀ q ∈ fz, q ∈ fz') : LimsF w fz' lims la S :=
  ⟨let ⟨n, e⟩ := I.l; ⟨n, s _ e⟩, fun kind hk => let ⟨d, t, a, b⟩ := I.i kind hk; ⟨d, t, s _ a, s _ b⟩⟩
theorem ItF.more {fz' : List (Addr × Obj)} {C it : Addr} {ns : Str} (I : ItF w fz C it ns am Ln) (s : ∀ q ∈ fz, q ∈ fz') : ItF w fz' C it ns am Ln :=
  ⟨ex7 (fun _ _ _ _ _ _ _ p => ⟨s _ p.1, s _ p.2⟩) I.ex⟩
theorem LZ.more {fz' : List (Addr × Obj)} (Z : LZ w fz L Y am Ln ahead sec min it ot la lb) (s : ∀ q ∈ fz, q ∈ fz') : LZ w fz' L Y am Ln ahead sec min it ot la lb :=
  ⟨let ⟨o, a, b⟩ := Z.cn; ⟨o, s _ a, b⟩, let ⟨o, u, a, b⟩ := Z.ca; ⟨o, u, s _ a, b⟩, Z.l1.more s, Z.l2.more s, Z.i1.more s, Z.i2.more s, let ⟨ps, e⟩ := Z.tb; ⟨ps, s _ e⟩⟩
structure InT (fz : List (Addr × Obj)) (I : Addr) (oI : Obj) (fz' : List (Addr × Obj)) : Prop where
  s : ∀ q ∈ fz, q ∈ fz'
  i : (I, oI) ∈ fz'
  n : ∀ q ∈ fz, q.1 ≠ I
theorem turn_in (G : LG prog w K p loose mean mg mb g env L Y fz ahead) (W : LW prog w Y V lg fz k t t2 σ1 σ2 c1 c2) (Z : LZ w fz L Y am Ln ahead sec min it ot la lb) (N : News g L h ((I, oI) :: (pre ++ Y.led V lg fz))) (hoff : ∀ q ∈ pre ++ Y.led V lg fz, @Ne Nat q.1 I) :
    ∃ fz', InT fz I oI fz' ∧ LG prog w K p loose mean mg mb g env L Y fz' ahead ∧ LW prog w Y V lg fz' k t t2 σ1 σ2 c1 c2 ∧ LZ w fz' L Y am Ln ahead sec min it ot la lb ∧ News g L h (pre ++ Y.led V lg fz') := by
  have s : ∀ q ∈ fz, q ∈ (I, oI) :: fz := fun q hq => .tail _ hq
  have ho : ∀ q ∈ Y.led V lg fz, @Ne Nat q.1 I := fun q hq => hoff q (List.mem_append_right _ hq)
  refine ⟨(I, oI) :: fz, ⟨s, .head _, fun q hq => ho q (Two.inF hq)⟩, G.more s, ⟨fun q hq => ?_, W.ho, W.no, W.D1, W.D2, W.b1, W.b2, fun q hq r hr => ?_⟩, Z.more s, fun q hq => ?_⟩
  · rcases List.mem_append.mp hq with hq | hq
    · exact W.off q (List.mem_append_left _ hq)
    · rcases List.mem_cons.mp hq with rfl | hq
      · intro hm
        obtain ⟨o, e⟩ := Two.mu_ex V hm
        exact ho _ (Two.inM e) rfl
      · exact W.off q (List.mem_append_right _ hq)
  · rcases List.mem_cons.mp hr with rfl | hr
    · exact ho q (Two.mem_led.mpr (.inr (.inl hq)))
    · exact W.ap q hq r hr
  · rcases List.mem_append.mp hq with hq | hq
    · exact N q (.tail _ (List.mem_append_left _ hq))
    · rcases Two.mem_led.mp hq with hq | hq | hq
      · exact N q (.tail _ (List.mem_append_right _ (Two.inM hq)))
      · exact N q (.tail _ (List.mem_append_right _ (Two.mem_led.mpr (.inr (.inl hq)))))
      · rcases List.mem_cons.mp hq with rfl | hq
        · exact N _ (.head _)
        · exact N q (.tail _ (List.mem_append_right _ (Two.inF hq)))
theorem turn_out {fz' : List (Addr × Obj)} {tm news : List (Addr × Obj)} (T : InT fz I oI fz') (W : LW prog w Y V lg fz' k t t2 σ1 σ2 c1 c2) (N : News g L h news) (TP : TmA Y.Mut (Y.led V lg fz') news tm) :
    LW prog w Y V lg fz k t t2 σ1 σ2 c1 c2 ∧ News g L h ((I, oI) :: (tm ++ Y.led V lg fz)) ∧ ∀ q ∈ Y.led V lg fz, @Ne Nat q.1 I := by
  have hIM : I ∉ Y.Mut := W.off (I, oI) (List.mem_append_right _ T.i)
  refine ⟨⟨fun q hq => W.off q ((List.mem_append.mp hq).elim (fun x => List.mem_append_left _ x) fun x => List.mem_append_right _ (T.s q x)), W.ho, W.no, W.D1, W.D2, W.b1, W.b2, fun q hq r hr => W.ap q hq r (T.s r hr)⟩, fun q hq => ?_, fun q hq => ?_⟩
  · rcases List.mem_cons.mp hq with rfl | hq
    · exact N _ (TP.mem.1 _ (Two.inF T.i))
    · rcases List.mem_append.mp hq with hq | hq
      · exact N q (TP.mem.2 q hq).2
      · refine N q (TP.mem.1 q (Two.mem_led.mpr ?_))
        rcases Two.mem_led.mp hq with hq | hq | hq
        · exact .inl hq
        · exact .inr (.inl hq)
        · exact .inr (.inr (T.s q hq))
  · rcases Two.mem_led.mp hq with hq | hq | hq
    · intro e
      exact hIM (e ▸ Two.mu_Mut hq)
    · exact W.ap q hq _ T.i
    · exact T.n q hq
end
noncomputable abbrev lmap2 (m : Str → Option Value) (Y : Two) (am Ln : Int) (ua ul : Tok) (sec min it ot mi yo : Addr) : Str → Option Value := fun y => if y = "mine" then some (Value.ref mi) else if y = "yours" then some (Value.ref yo) else lmap m Y am Ln ua ul sec min it ot y
theorem lmap2_eq {m : Str → Option Value} {Y : Two} {am Ln : Int} {ua ul : Tok} {sec min it ot mi yo : Addr} (M : LM m Y am Ln ua ul sec min it ot) (h1 : m "mine" = some (Value.ref mi)) (h2 : m "yours" = some (Value.ref yo)) : m = lmap2 m Y am Ln ua ul sec min it ot mi yo := by
  funext y
  unfold lmap2
  by_cases e1 : y = "mine"
  · rw [if_pos e1, e1, h1]
  by_cases e2 : y = "yours"
  · rw [if_neg e1, if_pos e2, e2, h2]
  rw [if_neg e1, if_neg e2]
  exact congrFun M.map y
structure LJ2 (prog : Program) (w : World) (Y : Two) (fz pre : List (Addr × Obj)) (am Ln x : Int) (ua ul : Tok) (sec min it ot mi yo : Addr) (k t : Int) (c1 c2 : Nat) (i : Nat) (m : Str → Option Value) (news : List (Addr × Obj)) : Prop where
  ex : ∃ V lg σ1 σ2, news = pre ++ Y.led V lg fz ∧ LW prog w Y V lg fz k t (60 * t + 60 * Ln * (1 + x)) σ1 σ2 c1 c2 ∧ R2 am Ln x σ1 σ2
  a : m "mine" = some (Value.ref mi)
  b : m "yours" = some (Value.ref yo)
  m : LM m Y am Ln ua ul sec min it ot
theorem LW.cast {prog : Program} {w : World} {Y : Two} {V : Var} {lg fz : List (Addr × Obj)} {k t t2 : Int} {σ1 σ2 : St} {c1 c2 d1 d2 : Nat} (W : LW prog w Y V lg fz k t t2 σ1 σ2 c1 c2) (e1 : c1 = d1) (e2 : c2 = d2) : LW prog w Y V lg fz k t t2 σ1 σ2 d1 d2 := by subst e1; subst e2; exact W
theorem mul_q {a q : Int} (h : 1 ≤ q ∧ q ≤ 80000) : IntMulOk a q := IntMulOk.of_right (intBits_le_64 (by (first | lia | omega)) (by (first | lia | omega)))
theorem mul_60 {a : Int} : IntMulOk 60 a := IntMulOk.of_left (intBits_le_64 (by (first | lia | omega)) (by (first | lia | omega)))

noncomputable def tg (o : Obj) : Bool := match o.data with
  | .seq vs _ => decide (vs.size ≤ 2)
  | .dict es _ => decide (es.size = 0)
  | .fields vs => decide (vs.size = 0)
  | _ => false
theorem tg_dict {prog : Program} {w : World} {o : Obj} (h : o.IsDictOf (strKind prog w) []) : tg o = true := by
  obtain ⟨es, ep, _, hd, _, hp, _⟩ := h
  have he : es.size = 0 := by
    rw [← Array.length_toList]
    cases hl : es.toList with
    | nil => rfl
    | cons a r => rw [hl] at hp; exact absurd hp (by intro z; cases z)
  unfold tg
  rw [hd]
  exact decide_eq_true he
theorem tg_cell {o : Obj} {v : Option Value} (h : o.data = .cell v) : tg o = false := by unfold tg; rw [h]
theorem tg_code {o : Obj} {vs : Array Value} {v : Value} (h : o.data = .fields vs) (h1 : vs[1]? = some v) : tg o = false := by
  unfold tg; rw [h]
  refine decide_eq_false fun e => ?_
  rw [Array.getElem?_eq_none (by (first | lia | omega))] at h1; cases h1
theorem lt_chain : ∀ (l : List Nat), List.Pairwise (fun a b : Nat => a < b) l → List.Pairwise (fun a b : Nat => a ≠ b) l := fun _ h => h.imp Nat.ne_of_lt
theorem pw_cons {a b : Nat} {l : List Nat} (h : @LT.lt Nat _ a b) (p : List.Pairwise (fun a b : Nat => a < b) (b :: l)) : List.Pairwise (fun a b : Nat => a < b) (a :: b :: l) :=
  List.pairwise_cons.mpr ⟨fun x hx => by
    rcases List.mem_cons.mp hx with rfl | hx
    · exact h
    · exact Nat.lt_trans h ((List.pairwise_cons.mp p).1 x hx), p⟩
theorem two_nodup {Y : Two} (a1 : @LT.lt Nat _ 640 Y.hd) (_a2 : @LT.lt Nat _ 588 Y.hd) (a3 : @LT.lt Nat _ Y.hd Y.nl) (a4 : @LT.lt Nat _ Y.nl Y.S1.ds) (a5 : @LT.lt Nat _ Y.S1.ds Y.S1.de) (a6 : @LT.lt Nat _ Y.S1.de Y.S1.dv) (a7 : @LT.lt Nat _ Y.S1.dv Y.S2.ds) (a8 : @LT.lt Nat _ Y.S2.ds Y.S2.de) (a9 : @LT.lt Nat _ Y.S2.de Y.S2.dv) :
    Y.Mut.Nodup ∧ Y.S1.Ok5 ∧ Y.S2.Ok5 := by
  have p : List.Pairwise (fun a b : Nat => a < b) [588, 640, Y.hd, Y.nl, Y.S1.ds, Y.S1.de, Y.S1.dv, Y.S2.ds, Y.S2.de, Y.S2.dv] :=
    pw_cons (by decide) (pw_cons a1 (pw_cons a3 (pw_cons a4 (pw_cons a5 (pw_cons a6 (pw_cons a7 (pw_cons a8 (pw_cons a9 (List.pairwise_singleton ..)))))))))
  have f5 := (List.pairwise_cons.mp p).1
  have p6 := (List.pairwise_cons.mp p).2
  have f6 := (List.pairwise_cons.mp p6).1
  have n : [588, 640, Y.hd, Y.nl, Y.S1.ds, Y.S1.de, Y.S1.dv, Y.S2.ds, Y.S2.de, Y.S2.dv].Nodup := lt_chain _ p
  have pm : List.Perm [588, 640, Y.hd, Y.nl, Y.S1.ds, Y.S1.de, Y.S1.dv, Y.S2.ds, Y.S2.de, Y.S2.dv] Y.Mut :=
    (List.Perm.swap 640 588 _).trans ((List.perm_append_comm (l₁ := [640, 588]) (l₂ := [Y.hd, Y.nl])).append_right [Y.S1.ds, Y.S1.de, Y.S1.dv, Y.S2.ds, Y.S2.de, Y.S2.dv])
  exact ⟨pm.nodup_iff.mp n, ⟨⟨Nat.ne_of_lt (f6 _ (by k_mem)), Nat.ne_of_lt (f6 _ (by k_mem)), Nat.ne_of_lt (f6 _ (by k_mem))⟩, ⟨Nat.ne_of_lt (f5 _ (by k_mem)), Nat.ne_of_lt (f5 _ (by k_mem)), Nat.ne_of_lt (f5 _ (by k_mem))⟩⟩, ⟨⟨Nat.ne_of_lt (f6 _ (by k_mem)), Nat.ne_of_lt (f6 _ (by k_mem)), Nat.ne_of_lt (f6 _ (by k_mem))⟩, ⟨Nat.ne_of_lt (f5 _ (by k_mem)), Nat.ne_of_lt (f5 _ (by k_mem)), Nat.ne_of_lt (f5 _ (by k_mem))⟩⟩⟩
theorem ids_ok {S : Ids} (l0 : @LT.lt Nat _ S.lo S.ds) (a5 : @LT.lt Nat _ S.ds S.de) (a6 : @LT.lt Nat _ S.de S.dv) (l1 : (S.ds == sysModules) = false) (l2 : (S.de == sysModules) = false) (l3 : (S.dv == sysModules) = false) : S.Ok :=
  ⟨Nat.ne_of_lt a5, Nat.ne_of_lt (Nat.lt_trans a5 a6), Nat.ne_of_lt a6, l1, l2, l3, l0⟩
theorem bd0 : Bd ⟨fun _ => none, fun _ => none, fun _ => none⟩ 0 := ⟨(fun _ _ h => by cases h), (fun _ _ h => by cases h), (fun _ _ h => by cases h), (fun _ _ h => by cases h)⟩
theorem dat0 {prog : Program} {w : World} {O : Ob} {lg : List (Addr × Obj)} (s : O.s.IsDictOf (strKind prog w) []) (e : O.e.IsDictOf (strKind prog w) []) (v : O.v.IsDictOf (strKind prog w) []) (t : O.t = tabObj #[]) (t5 : O.t5 = tabObj #[]) : Dat prog w lg O ⟨fun _ => none, fun _ => none, fun _ => none⟩ 0 :=
  ⟨⟨[], s, Nat.le_refl _, fun _ => .inl ⟨rfl, rfl⟩⟩, ⟨[], e, Nat.le_refl _, fun _ => .inl ⟨rfl, rfl⟩⟩, ⟨[], v, Nat.le_refl _, fun _ => .inl ⟨rfl, rfl⟩⟩, .inl t, .inl t5, bd0, by decide⟩
structure InF (full fz : List (Addr × Obj)) : Prop where
  s : ∀ q ∈ full, tg q.2 = false → q ∈ fz
theorem law_start {prog : Program} {w : World} {K : Frag} {p : Program} {loose : List Str} {mean : ExcName → Option Value} {mg mb : Str → Option Value} {g h : Heap} {env : Env} {L : Addr} {Y : Two} {V : Var} {full : List (Addr × Obj)} {Ln x : Int}
    {E : Value → Shared → Prop} (_hE : PassesOwn (model prog w) (callerA.deeper env) env E) (X : K.In g) (T : Top p loose mean mg mb g) (C1 : CodeHd g 644 640) (C2 : CodeHd g 592 588) (hf : env.frame = some L) (hk : env.scope.kind = .function) (N : News g L h full)
    (nd : Y.Mut.Nodup ∧ Y.S1.Ok5 ∧ Y.S2.Ok5) (o1 : Y.S1.Ok) (o2 : Y.S2.Ok) (m : ∀ q ∈ Y.mu V, q ∈ full)
    (ho : ∃ u n0, V.ho = lstO [.ref Y.scr, .int 3 u] n0) (no : ∃ u n0, V.no = lstO [.int (Ln + 1) u] n0) (t : V.t = tabObj #[]) (t5 : V.t5 = tabObj #[])
    (s1 : V.s1.IsDictOf (strKind prog w) []) (e1 : V.e1.IsDictOf (strKind prog w) []) (v1 : V.v1.IsDictOf (strKind prog w) []) (s2 : V.s2.IsDictOf (strKind prog w) []) (e2 : V.e2.IsDictOf (strKind prog w) []) (v2 : V.v2.IsDictOf (strKind prog w) [])
    (a1 : (Y.S1.st, instObj 691 Y.S1.d) ∈ full) (d1 : (Y.S1.d, dictOf (stDict w Y.S1) 4) ∈ full) (a2 : (Y.S2.st, instObj 691 Y.S2.d) ∈ full) (d2 : (Y.S2.d, dictOf (stDict w Y.S2) 4) ∈ full)
    (f1 : ∃ c dd fd sl, (Y.S1.fc, ⟨c, dd, .func fd, sl⟩) ∈ full) (f2 : ∃ c dd fd sl, (Y.S2.fc, ⟨c, dd, .func fd, sl⟩) ∈ full)
    (k1 : ∀ fz, InF full fz → ∀ (base : Heap) (t : Int) u n0, (∀ b o, g.get? b = some o → base.get? b = some o) → (∀ q ∈ fz, base.get? q.1 = some q.2) → base.get? Y.nl = some (lstO [.int t u] n0) → Clk prog w base Y.S1.fc t)
    (k2 : ∀ fz, InF full fz → ∀ (base : Heap) (t : Int) u n0, (∀ b o, g.get? b = some o → base.get? b = some o) → (∀ q ∈ fz, base.get? q.1 = some q.2) → base.get? Y.nl = some (lstO [.int t u] n0) → Clk prog w base Y.S2.fc (60 * t + 60 * Ln * (1 + x)))
    (l0 : 1 ≤ Ln) (l1 : Ln < 8) (x0 : 0 ≤ x) (x1 : x < 9) :
    ∃ fz, InF full fz ∧ LG prog w K p loose mean mg mb g env L Y fz (60 * Ln * (1 + x)) ∧ LW prog w Y V [] fz 3 (Ln + 1) (60 * (Ln + 1) + 60 * Ln * (1 + x)) ⟨fun _ => none, fun _ => none, fun _ => none⟩ ⟨fun _ => none, fun _ => none, fun _ => none⟩ 0 0 ∧ News g L h (Y.led V [] fz) := by
  have inF : InF full (full.filter fun q => !tg q.2) := ⟨fun q hq ht => List.mem_filter.mpr ⟨hq, by rw [ht]; rfl⟩⟩
  have ofF : ∀ q ∈ full.filter (fun q => !tg q.2), q ∈ full ∧ tg q.2 = false := fun q hq => by
    have z := List.mem_filter.mp hq
    exact ⟨z.1, by simpa using z.2⟩
  have tm : ∀ q ∈ Y.mu V, tg q.2 = true := fun q hq => by
    obtain ⟨u, n0, eho⟩ := ho
    obtain ⟨u', n1, eno⟩ := no
    rcases Two.mem_mu.mp hq with rfl | rfl | rfl | rfl | rfl | rfl | rfl | rfl | rfl | rfl
    · show tg V.ho = true; rw [eho]; rfl
    · show tg V.no = true; rw [eno]; rfl
    · show tg V.t = true; rw [t]; rfl
    · show tg V.t5 = true; rw [t5]; rfl
    · exact tg_dict s1
    · exact tg_dict e1
    · exact tg_dict v1
    · exact tg_dict s2
    · exact tg_dict e2
    · exact tg_dict v2
  have hb := a_nonneg (L := Ln) (x := x) (by (first | lia | omega)) x0
  have hb2 : 60 * Ln * (1 + x) ≤ 5000 := by
    have h1 : 60 * Ln * (1 + x) ≤ 420 * (1 + x) := Int.mul_le_mul_of_nonneg_right (by (first | lia | omega)) (by (first | lia | omega))
    (first | lia | omega)
  refine ⟨_, inF, ⟨X, T, C1, C2, hf, hk, nd.1, o1, nd.2.1, o2, nd.2.2, inF.s _ a1 rfl, inF.s _ d1 rfl, inF.s _ a2 rfl, inF.s _ d2 rfl, ?_, ?_, k1 _ inF, k2 _ inF⟩, ⟨fun q hq => ?_, ho, no, dat0 s1 e1 v1 t t5, dat0 s2 e2 v2 t t5, by (first | lia | omega), by (first | lia | omega), fun _ h => nomatch h⟩, fun q hq => ?_⟩
  · obtain ⟨c, dd, fd, sl, e⟩ := f1
    exact ⟨c, dd, fd, sl, inF.s _ e rfl⟩
  · obtain ⟨c, dd, fd, sl, e⟩ := f2
    exact ⟨c, dd, fd, sl, inF.s _ e rfl⟩
  · intro hm
    obtain ⟨hq1, hq2⟩ := ofF q hq
    obtain ⟨o, ho'⟩ := Two.mu_ex V hm
    have z1 := (N _ (m _ ho')).1
    have z2 := (N _ hq1).1
    rw [z2] at z1
    have z3 := tm _ ho'
    rw [← Option.some.inj z1, hq2] at z3
    cases z3
  · rcases Two.mem_led.mp hq with hq | hq | hq
    · exact N q (m q hq)
    · exact nomatch hq
    · exact N q (ofF q hq).1
theorem code_of {h : Heap} {c' : Addr} {o : Obj} {vs : Array Value} {qual : Str} {t : Tok} (e : h.get? c' = some o) (d : o.data = .fields vs) (q : vs[1]? = some (.str qual t)) : h.CodeRec (.ref c') qual := ⟨c', o, vs, t, rfl, e, d, q⟩

local macro_rules | `(tactic| walk_at $s:str) => `(tactic| k_extra $s)
local macro_rules | `(tactic| k_ne) => `(tactic| walk_at "MINE ne")
local macro_rules | `(tactic| k_updF) => `(tactic| walk_at "MINE updF")
theorem reg_CGet : True := by
  k_with_none
  k_with "MINE pj" => (first | with_reducible assumption | exact an0 (by with_reducible assumption) | exact an1 (by with_reducible assumption) | exact an2 (by with_reducible assumption) | exact an3 (by with_reducible assumption) | exact an4 (by with_reducible assumption) | exact an5 (by with_reducible assumption) | exact an6 (by with_reducible assumption) | exact an7 (by with_reducible assumption) | exact an8 (by with_reducible assumption) | exact an9 (by with_reducible assumption) | exact bn1 (by with_reducible assumption) | exact bn2 (by with_reducible assumption) | exact bn3 (by with_reducible assumption) | exact bn4 (by with_reducible assumption) | exact bn5 (by with_reducible assumption) | exact bn6 (by with_reducible assumption) | exact bn7 (by with_reducible assumption) | exact bn8 (by with_reducible assumption))
  k_with "MINE lt" => (first | walk_at "MINE pj" | (with_reducible refine Nat.lt_trans ?_ (by with_reducible assumption); walk_at "MINE lt"))
  k_with "MINE ne" => (with_reducible refine neN ?_; (try dsimp only); first | with_reducible assumption | (refine Ne.symm ?_; with_reducible assumption) | (refine Nat.ne_of_lt ?_; with_reducible assumption) | (refine Nat.ne_of_gt ?_; with_reducible assumption) | (simp only [*, ne_eq, not_false_eq_true]; done) | (refine Ne.symm ?_; (simp only [*, ne_eq, not_false_eq_true]; done)) | (refine Nat.ne_of_lt ?_; (simp only [*]; done)) | (refine Nat.ne_of_gt ?_; (simp only [*]; done)) | assumption | decide | (refine Nat.ne_of_gt ?_; walk_at "MINE lt") | (refine Nat.ne_of_lt ?_; walk_at "MINE lt") | lia | omega)
  k_with "MINE nes" => (repeat' (first | (refine And.intro ?_ ?_) | (with_reducible refine neN ?_; walk_at "MINE ne")))
  k_with "MINE om" => (first | with_reducible assumption | exact Nat.le_of_ble_eq_true rfl | exact an0 (by with_reducible assumption) | exact bn1 (by with_reducible assumption) | exact an1 (by with_reducible assumption) | exact Nat.lt_of_le_of_lt (Nat.le_add_right _ _) (by with_reducible assumption) | exact Int.lt_trans (by with_reducible assumption) (by decide) | exact Int.lt_trans (bn1 (by with_reducible assumption)) (by decide) | exact Int.lt_of_lt_of_le (by decide) (by with_reducible assumption) | exact Int.lt_of_lt_of_le (by decide) (an0 (by with_reducible assumption)) | exact Nat.le_trans (by with_reducible assumption) (by decide) | exact Int.le_of_lt (by with_reducible assumption) | exact Int.le_trans (by with_reducible assumption) (by decide) | exact Int.lt_of_le_of_lt (by with_reducible assumption) (by decide) | decide | (walk_at "MINE nes"; done) | lia | omega)
  k_with "getMethod ref" => (k_here; k_dflt (refine' dMethI ?N_0 ?m_0 ?d_0 ?i_0 ?_; (case N_0 => k_asm); (case m_0 => k_mem); (case d_0 => k_asm); (case i_0 => exact rfl); k_whole))
  k_with "call builtin:dict.get" => (k_here; k_dflt (refine' dGetI ?N_1 ?m_1 ?d_1 ?lo_1 ?_; (case N_1 => k_asm); (case m_1 => k_mem); (case d_1 => k_asm); (case lo_1 => k_asm); k_whole; intro t'K))
  k_with "call builtin:dict.pop" => (k_here; k_dflt (refine' dPopI ?F_2 ?N_2 ?U_2 ?d_2 ?lo_2 ?z_2 ?_; (case F_2 => k_asm); (case N_2 => k_asm); (case U_2 => k_updF); (case d_2 => k_asm); (case lo_2 => k_asm); (case z_2 => walk_at "MINE om"); k_whole; intro h'K o'K v'K F'K N'K hd'K; (try dsimp only at N'K); (try k_sweep)))
  k_with "getMethod ref" => (k_here; k_dflt (refine' dMethV ?N_3 ?m_3 ?d_3 ?i_3 ?_; (case N_3 => k_asm); (case m_3 => k_mem); (case d_3 => k_asm); (case i_3 => exact rfl); k_whole))
  k_with "call builtin:dict.pop" => (k_here; k_dflt (refine' dPopV ?F_4 ?N_4 ?U_4 ?d_4 ?lo_4 ?z_4 ?_; (case F_4 => k_asm); (case N_4 => k_asm); (case U_4 => k_updF); (case d_4 => k_asm); (case lo_4 => k_asm); (case z_4 => walk_at "MINE om"); k_whole; intro h'K o'K v'K F'K N'K hd'K; (try dsimp only at N'K); (try k_sweep)))
  k_with "setItem ref str" => (k_here; k_dflt (refine' dSetI ?F_5 ?N_5 ?U_5 ?d_5 ?z_5 ?_; (case F_5 => k_asm); (case N_5 => k_asm); (case U_5 => k_updF); (case d_5 => k_asm); (case z_5 => walk_at "MINE om"); k_whole; intro h'K o'K F'K N'K hd'K; (try dsimp only at N'K); (try k_sweep)))
  k_with "subscriptTail" => (k_here; (with_reducible show wpAny _ _ (subscriptTail _ _ (Value.ref _) (Value.str _ _)) _ _ _); k_dflt (refine' dTailI ?N_6 ?m_6 ?d_6 ?_; (case N_6 => k_asm); (case m_6 => k_mem); (case d_6 => k_asm); k_whole))
  k_with "getItem ref str" => (k_here; k_dflt (refine' dItemI ?N_7 ?m_7 ?d_7 ?v_7 ?_; (case N_7 => k_asm); (case m_7 => k_mem); (case d_7 => k_asm); (case v_7 => first | k_asm | exact if_pos rfl); k_whole; intro t'K))
  k_with "getAttr ref" => (k_here; k_dflt (refine' getOwnG ?k1_8 ?k2_8 ?i1_8 ?i2_8 ?k4_8 ?k5_8 ?k6_8 ?k7_8 ?k8_8 ?k9_8 ?_; (case k1_8 => k_asm); (case k2_8 => k_asm); (case i1_8 => k_asm); (case i2_8 => k_asm); (case k4_8 => k_is); (case k5_8 => k_is); (case k6_8 => k_is); (case k7_8 => k_is); (case k8_8 => k_get); (case k9_8 => k_handed); k_whole))
  k_with "getMethod ref" => (k_here; k_dflt (refine' methG ?k1_9 ?k2_9 ?i1_9 ?i2_9 ?k4_9 ?k5_9 ?k6_9 ?k7_9 ?_; (case k1_9 => k_asm); (case k2_9 => k_asm); (case i1_9 => k_asm); (case i2_9 => k_asm); (case k4_9 => k_is); (case k5_9 => k_is); (case k6_9 => k_is); (case k7_9 => k_get); k_whole))
  k_with "getMethod ref" => (k_here; k_dflt (refine' kmuOwnG ?k1_10 ?k2_10 ?i1_10 ?i2_10 ?k4_10 ?k5_10 ?_; (case k1_10 => k_asm); (case k2_10 => k_asm); (case i1_10 => k_asm); (case i2_10 => k_asm); (case k4_10 => k_is); (case k5_10 => k_is); k_whole))
  k_with "callWith ref" => (k_here; (with_reducible show wpAny _ _ (callWith _ (Value.ref _) [] (backTo _ (starEach [] _)) []) _ _ _); k_dflt (refine' callFn0 ?k1_11 ?k2_11 ?_; (case k1_11 => k_asm); (case k2_11 => k_asm); k_whole))
  k_with "callWith ref" => (k_here; (with_reducible show wpAny _ _ (callWith _ (Value.ref _) _ (backTo _ (starEach (_ :: _) _)) []) _ _ _); k_dflt (first | (refine' callWith_K ?k1_12 ?k2_12 ?_; (case k1_12 => k_asm); (case k2_12 => k_is); k_whole) | (refine' callWith_M ?k1_12 ?k2_12 ?k3_12 ?k4_12 ?_; (case k1_12 => k_asm); (case k2_12 => k_asm); (case k3_12 => k_mem); (case k4_12 => k_is); k_whole)))
  k_with "MINE room" => (first | assumption | exact ArOk.down (by assumption) (by walk_at "MINE om"))
  k_with "call ref" => (k_here; k_dflt (refine' clk_use ?C_14 ?F_14 ?N_14 ?d_14 ?_; (case C_14 => k_asm); (case F_14 => k_asm); (case N_14 => k_asm); (case d_14 => walk_at "MINE room"); k_whole; intro h'K tk'K t'K F'K N'K; (try k_sweep)))
  k_with "call ref" => (k_here; (with_reducible show wpAny _ _ (call (Value.ref 616) _) _ _ _); k_dflt (refine' get_use ?C_15 ?ok_15 ?F_15 ?N_15 ?ms_15 ?me_15 ?mv_15 ?U1_15 ?U2_15 ?U3_15 ?X_15 ?T_15 ?I_15 ?hS_15 ?hE_15 ?hc_15 ?hd_15 ?_; (case C_15 => k_asm); (case ok_15 => k_asm); (case F_15 => k_asm); (case N_15 => k_asm); (case ms_15 => k_mem); (case me_15 => k_mem); (case mv_15 => k_mem); (case U1_15 => k_updF); (case U2_15 => (intro xK; k_updF)); (case U3_15 => (intro xK yK; k_updF)); (case X_15 => k_asm); (case T_15 => k_asm); (case I_15 => k_asm); (case hS_15 => k_asm); (case hE_15 => k_asm); (case hc_15 => walk_at "MINE om"); (case hd_15 => walk_at "MINE room"); k_whole; intro h'K tk'K t'K os'K oe'K F'K N'K hS'K hE'K; (try dsimp only at N'K); (try k_sweep)))
  k_with "MINE enter" => (
  (case ho => k_is); (case hcd => k_is); (case hroom => walk_at "MINE om"); (case hbind => first | exact BindsTo.of_eq rfl | exact binds_K (by k_in) rfl (by k_is) rfl rfl rfl);
  (case c5 => decide); (case hloc => exact locs rfl); (case c2 => exact rfl); (case c3 => exact rfl); (case c4 => exact rfl))
  k_with "MINE exit" => ((case F => k_asm); (case N => k_asm); (case a => k_mem); (case b => k_mem); (case c => k_mem))
  k_with "formatField int" => (k_here; (with_reducible show wpAny _ _ (formatField (Value.int _ _) _) _ _ _); k_dflt (refine' fmtI ?a_18 ?b_18 ?_; (case a_18 => walk_at "MINE om"); (case b_18 => walk_at "MINE om"); k_whole; intro hy'K t'K))
  k_with "And" => ((with_reducible show PySem.Str.length (_ ++ _) ≤ sizeLine ∧ wpAny _ _ (joinParts _ _) _ _ _); refine ⟨?a_19, ?_⟩; (case a_19 => (simp only [Str.length_append, Str.empty_append, slk_one, sizeLine_eq]; walk_at "MINE om")))
  k_with "getMethod ref" => (k_here; k_dflt (refine' kmuCmG ?k1_20 ?k2_20 ?k3_20 ?i1_20 ?i2_20 ?k5_20 ?k6_20 ?k7_20 ?k8_20 ?k9_20 ?k10_20 ?k11_20 ?k12_20 ?k13_20 ?_; (case k1_20 => k_asm); (case k2_20 => k_asm); (case k3_20 => k_asm); (case i1_20 => k_asm); (case i2_20 => k_asm); (case k5_20 => k_is); (case k6_20 => k_is); (case k7_20 => k_is); (case k8_20 => k_is); (case k9_20 => k_is); (case k10_20 => k_is); (case k11_20 => decide +kernel); (case k12_20 => k_get); (case k13_20 => k_is); k_whole; intro q'K h'K F'K N'K l1K; (try k_lt l1K); (try k_sweep)))
  k_with "call ref" => (k_here; k_dflt (refine' keys_use ?C_21 ?F_21 ?N_21 ?q_21 ?X_21 ?T_21 ?h0_21 ?h1_21 ?h2_21 ?hk_21 ?hd_21 ?_; (case C_21 => k_asm); (case F_21 => k_asm); (case N_21 => k_asm); (case q_21 => k_mem); (case X_21 => k_asm); (case T_21 => k_asm); (case h0_21 => walk_at "MINE om"); (case h1_21 => walk_at "MINE om"); (case h2_21 => walk_at "MINE om"); (case hk_21 => assumption); (case hd_21 => walk_at "MINE room"); k_whole; intro h'K tk'K tp'K u1K u2K F'K N'K l1K; (try simp only [List.forall_mem_cons, List.not_mem_nil, false_implies, implies_true, and_true] at l1K); (try k_sweep)))
  k_with "call ref" => (k_here; (with_reducible show wpAny _ _ (call (Value.ref 660) _) _ _ _); k_dflt (refine' info_use ?C_22 ?ok_22 ?F_22 ?N_22 ?ms_22 ?me_22 ?mv_22 ?U1_22 ?U2_22 ?U3_22 ?X_22 ?T_22 ?I_22 ?hV_22 ?hS_22 ?hE_22 ?hc_22 ?h0_22 ?hd_22 ?_; (case C_22 => k_asm); (case ok_22 => k_asm); (case F_22 => k_asm); (case N_22 => k_asm); (case ms_22 => k_mem); (case me_22 => k_mem); (case mv_22 => k_mem); (case U1_22 => k_updF); (case U2_22 => (intro xK; k_updF)); (case U3_22 => (intro xK yK; k_updF)); (case X_22 => k_asm); (case T_22 => k_asm); (case I_22 => k_asm); (case hV_22 => k_asm); (case hS_22 => k_asm); (case hE_22 => k_asm); (case hc_22 => walk_at "MINE om"); (case h0_22 => walk_at "MINE om"); (case hd_22 => walk_at "MINE room"); k_whole; intro h'K tk'K os'K oe'K tp'K u1K u2K u3K u4K F'K N'K l1K hS'K hE'K; (try simp only [List.forall_mem_cons, List.not_mem_nil, false_implies, implies_true, and_true] at l1K); (try dsimp only at N'K); (try k_sweep)))
  k_with "call ref" => (k_here; (with_reducible show wpAny _ _ (call (Value.ref 601) _ _) _ _ _); k_dflt (refine' incr_use ?C_23 ?ok_23 ?F_23 ?N_23 ?ms_23 ?me_23 ?mv_23 ?U1_23 ?U2_23 ?U3_23 ?X_23 ?T_23 ?I_23 ?hS_23 ?hE_23 ?hc_23 ?hd_23 ?_; (case C_23 => k_asm); (case ok_23 => k_asm); (case F_23 => k_asm); (case N_23 => k_asm); (case ms_23 => k_mem); (case me_23 => k_mem); (case mv_23 => k_mem); (case U1_23 => k_updF); (case U2_23 => (intro xK; k_updF)); (case U3_23 => (intro xK yK; k_updF)); (case X_23 => k_asm); (case T_23 => k_asm); (case I_23 => k_asm); (case hS_23 => k_asm); (case hE_23 => k_asm); (case hc_23 => walk_at "MINE om"); (case hd_23 => walk_at "MINE room"); k_whole; intro h'K tk'K t'K os'K oe'K F'K N'K hS'K hE'K; (try dsimp only at N'K); (try k_sweep)))
  k_with "call ref" => (k_here; (with_reducible show wpAny _ _ (call (Value.ref 623) _) _ _ _); k_dflt (refine' clear_use ?C_24 ?ok_24 ?F_24 ?N_24 ?ms_24 ?me_24 ?mv_24 ?U1_24 ?U2_24 ?U3_24 ?X_24 ?T_24 ?I_24 ?hS_24 ?hE_24 ?hV_24 ?hc_24 ?hd_24 ?_; (case C_24 => k_asm); (case ok_24 => k_asm); (case F_24 => k_asm); (case N_24 => k_asm); (case ms_24 => k_mem); (case me_24 => k_mem); (case mv_24 => k_mem); (case U1_24 => k_updF); (case U2_24 => (intro xK; k_updF)); (case U3_24 => (intro xK yK; k_updF)); (case X_24 => k_asm); (case T_24 => k_asm); (case I_24 => k_asm); (case hS_24 => k_asm); (case hE_24 => k_asm); (case hV_24 => k_asm); (case hc_24 => walk_at "MINE om"); (case hd_24 => walk_at "MINE room"); k_whole; intro h'K tk'K os'K oe'K ov'K F'K N'K hS'K hE'K hV'K; (try dsimp only at N'K); (try k_sweep)))
  k_with "assign Tuple" => (k_here; (with_reducible show wpAny _ _ (assign (Expr.Tuple _ _ _) _ (Value.ref _)) _ _ _); k_dflt (refine' unpackN_ ?k1_25 ?k2_25 ?k3_25 ?k4_25 ?k5_25 ?k6_25 ?_; (case k1_25 => k_asm); (case k2_25 => k_asm); (case k3_25 => kun_tup); (case k4_25 => assumption); (case k5_25 => exact rfl); (case k6_25 => exact rfl); k_whole); intro h'K F'K N'K; (try k_sweep))
  k_with "binaryOp Mult int int" => (k_here; (first | refine PySem.mul_int ?_ (hm := IntMulOk.of_left (intBits_le_64 (by walk_at "MINE om") (by walk_at "MINE om"))) | refine PySem.mul_int ?_ (hm := IntMulOk.of_right (intBits_le_64 (by walk_at "MINE om") (by walk_at "MINE om")))))
  k_with "eval Name" => (k_here; k_dflt (refine' nameX_L ?F_zn ?v_zn ?_ ?a_zn ?b_zn; (case F_zn => k_asm); (case a_zn => rfl); (case b_zn => rfl); (case v_zn => rfl); k_whole))
  trivial

theorem c_get (w : World) : GetC (Mine.kmake.heap_1 w.params) PySem.Challenge.pw_jo0040_02 w := by
  intro p loose mg mb S now os oe ov A s key t5 fs fe c Q E hP hS hE hc hd ret
  have hfill : (PySem.Challenge.rw_jo0040_02 = PySem.Challenge.rw_jo0040_02) ∧ (Mine.kmake.heap_1 = Mine.kmake.heap_1) := by k_fill; exact ⟨rfl, rfl⟩
  clear hfill
  obtain ⟨ok, X, T, I, hs, he, hv⟩ := hP
  obtain ⟨n1, n2, n3, l1, l2, l3, b1⟩ := id ok
  have Xs : (Mine.kmake.heap_1 w.params).In s.heap := X.keeps fun b o e => of_hideAll _ e
  have hroom' := hd.d
  have hh := hd.h
  have hu := hd.u
  refine wpAny_call ?_
  refine' enter (Wl := S.W) (news := [(S.ds, os), (S.de, oe), (S.dv, ov)]) (binds := [("self", .ref S.st), ("key", .str key t5)]) X T (own3 hs he hv) ?ho ?hcd ?hroom ?hbind ?hloc ?_ ?c2 ?c3 ?c4 ?c5
  walk_at "MINE enter"
  intro L' h₁ F N lt
  (try dsimp only [List.reverse, List.reverseAux] at F)
  clear hs he hv lt Xs
  generalize hg : hideAll s.heap S.W = g at *
  have i1 := I.i1
  have i2 := I.i2
  obtain ⟨fcc, fcd, fcf, fcs, hfc⟩ := I.fn
  have hb := I.bnd
  (try k_fold)
  k_steps
  · have er : sGet fs fe now key = (era fs key, era fe key, (era fs key key).getD 0) := by unfold sGet; exact if_pos (by assumption)
    rw [er] at ret
    (refine' ret _ _ _ _ _ (post_exit hg ?F ?N ?a ?b ?c) ?S ?E; (case F => k_asm); (case N => k_asm); (case a => k_mem); (case b => k_mem); (case c => k_mem); (case S => assumption); (case E => assumption))
  · have er : sGet fs fe now key = (fs, fe, (fs key).getD 0) := by unfold sGet; exact if_neg (by assumption)
    rw [er] at ret
    (refine' ret _ _ _ _ _ (post_exit hg ?F ?N ?a ?b ?c) ?S ?E; (case F => k_asm); (case N => k_asm); (case a => k_mem); (case b => k_mem); (case c => k_mem); (case S => assumption); (case E => assumption))


theorem c_incr (w : World) (hGet : GetC (Mine.kmake.heap_1 w.params) PySem.Challenge.pw_jo0040_02 w) : IncrC (Mine.kmake.heap_1 w.params) PySem.Challenge.pw_jo0040_02 w := by
  intro p loose mg mb S now os oe ov A s key t5 t6 t7 expiry amount fs fe c Q E hP hS hE hc hd ret
  have hfill : (PySem.Challenge.rw_jo0040_02 = PySem.Challenge.rw_jo0040_02) ∧ (Mine.kmake.heap_1 = Mine.kmake.heap_1) := by k_fill; exact ⟨rfl, rfl⟩
  clear hfill
  obtain ⟨ok, X, T, I, hs, he, hv⟩ := hP
  obtain ⟨n1, n2, n3, l1, l2, l3, b1⟩ := id ok
  have Xs : (Mine.kmake.heap_1 w.params).In s.heap := X.keeps fun b o e => of_hideAll _ e
  have hroom' := hd.d
  have hh := hd.h
  have hu := hd.u
  refine wpAny_call ?_
  refine' enter (Wl := S.W) (news := [(S.ds, os), (S.de, oe), (S.dv, ov)]) (binds := [("self", .ref S.st), ("key", .str key t5), ("expiry", .int expiry t6), ("amount", .int amount t7)]) X T (own3 hs he hv) ?ho ?hcd ?hroom ?hbind ?hloc ?_ ?c2 ?c3 ?c4 ?c5
  walk_at "MINE enter"
  intro L' h₁ F N lt
  (try dsimp only [List.reverse, List.reverseAux] at F)
  clear hs he hv lt Xs
  generalize hg : hideAll s.heap S.W = g at *
  have i1 := I.i1
  have i2 := I.i2
  obtain ⟨fcc, fcd, fcf, fcs, hfc⟩ := I.fn
  have hb := I.bnd
  (try k_fold)
  k_steps
  · have er : sIncr fs fe now key expiry amount = (upd (sGet fs fe now key).1 key (((sGet fs fe now key).1 key).getD 0 + amount), upd (sGet fs fe now key).2.1 key (now + expiry), ((upd (sGet fs fe now key).1 key (((sGet fs fe now key).1 key).getD 0 + amount)) key).getD 0) := by unfold sIncr; exact if_pos (by assumption)
    rw [er] at ret
    (refine' ret _ _ _ _ _ (post_exit hg ?F ?N ?a ?b ?c) ?S ?E; (case F => k_asm); (case N => k_asm); (case a => k_mem); (case b => k_mem); (case c => k_mem); (case S => first | assumption | exact IObj.le (by assumption) (by walk_at "MINE om")); (case E => first | assumption | exact IObj.le (by assumption) (by walk_at "MINE om")))
  · have er : sIncr fs fe now key expiry amount = (upd (sGet fs fe now key).1 key (((sGet fs fe now key).1 key).getD 0 + amount), (sGet fs fe now key).2.1, ((upd (sGet fs fe now key).1 key (((sGet fs fe now key).1 key).getD 0 + amount)) key).getD 0) := by unfold sIncr; exact if_neg (by assumption)
    rw [er] at ret
    (refine' ret _ _ _ _ _ (post_exit hg ?F ?N ?a ?b ?c) ?S ?E; (case F => k_asm); (case N => k_asm); (case a => k_mem); (case b => k_mem); (case c => k_mem); (case S => first | assumption | exact IObj.le (by assumption) (by walk_at "MINE om")); (case E => first | assumption | exact IObj.le (by assumption) (by walk_at "MINE om")))


theorem c_clear (w : World) : ClearC (Mine.kmake.heap_1 w.params) PySem.Challenge.pw_jo0040_02 w := by
  intro p loose mg mb S now os oe ov A s key t5 fs fe fv lg c Q E hP hS hE hV hc hd ret
  have hfill : (PySem.Challenge.rw_jo0040_02 = PySem.Challenge.rw_jo0040_02) ∧ (Mine.kmake.heap_1 = Mine.kmake.heap_1) := by k_fill; exact ⟨rfl, rfl⟩
  clear hfill
  obtain ⟨ok, X, T, I, hs, he, hv⟩ := hP
  obtain ⟨n1, n2, n3, l1, l2, l3, b1⟩ := id ok
  have Xs : (Mine.kmake.heap_1 w.params).In s.heap := X.keeps fun b o e => of_hideAll _ e
  have hroom' := hd.d
  have hh := hd.h
  have hu := hd.u
  refine wpAny_call ?_
  refine' enter (Wl := S.W) (news := [(S.ds, os), (S.de, oe), (S.dv, ov)]) (binds := [("self", .ref S.st), ("key", .str key t5)]) X T (own3 hs he hv) ?ho ?hcd ?hroom ?hbind ?hloc ?_ ?c2 ?c3 ?c4 ?c5
  walk_at "MINE enter"
  intro L' h₁ F N lt
  (try dsimp only [List.reverse, List.reverseAux] at F)
  clear hs he hv lt Xs
  generalize hg : hideAll s.heap S.W = g at *
  have i1 := I.i1
  have i2 := I.i2
  obtain ⟨fcc, fcd, fcf, fcs, hfc⟩ := I.fn
  have hb := I.bnd
  (try k_fold)
  k_steps
  · (refine' ret _ _ _ _ _ (post_exit hg ?F ?N ?a ?b ?c) ?S ?E ?V; (case F => k_asm); (case N => k_asm); (case a => k_mem); (case b => k_mem); (case c => k_mem); (case S => assumption); (case E => assumption); (case V => assumption))
theorem c_getexp (w : World) : GetExpC (Mine.kmake.heap_1 w.params) PySem.Challenge.pw_jo0040_02 w := by
  intro p loose mg mb S now os oe ov A s key t5 fe c Q E hP hE hc hd ret
  have hfill : (PySem.Challenge.rw_jo0040_02 = PySem.Challenge.rw_jo0040_02) ∧ (Mine.kmake.heap_1 = Mine.kmake.heap_1) := by k_fill; exact ⟨rfl, rfl⟩
  clear hfill
  obtain ⟨ok, X, T, I, hs, he, hv⟩ := hP
  obtain ⟨n1, n2, n3, l1, l2, l3, b1⟩ := id ok
  have Xs : (Mine.kmake.heap_1 w.params).In s.heap := X.keeps fun b o e => of_hideAll _ e
  have hroom' := hd.d
  have hh := hd.h
  have hu := hd.u
  refine wpAny_call ?_
  refine' enter (Wl := S.W) (news := [(S.ds, os), (S.de, oe), (S.dv, ov)]) (binds := [("self", .ref S.st), ("key", .str key t5)]) X T (own3 hs he hv) ?ho ?hcd ?hroom ?hbind ?hloc ?_ ?c2 ?c3 ?c4 ?c5
  walk_at "MINE enter"
  intro L' h₁ F N lt
  (try dsimp only [List.reverse, List.reverseAux] at F)
  clear hs he hv lt Xs
  generalize hg : hideAll s.heap S.W = g at *
  have i1 := I.i1
  have i2 := I.i2
  obtain ⟨fcc, fcd, fcf, fcs, hfc⟩ := I.fn
  have hb := I.bnd
  (try k_fold)
  k_steps
  · (refine' ret _ _ _ (post_exit hg ?F ?N ?a ?b ?c); (case F => k_asm); (case N => k_asm); (case a => k_mem); (case b => k_mem); (case c => k_mem))


theorem c_keys (w : World) : KeysC (Mine.kmake.heap_1 w.params) PySem.Challenge.pw_jo0040_02 w := by
  intro p loose mg mb A s key expiry at_ t1 t2 t3 R X T h0 h1 h2 hk hd ret
  have hfill : (PySem.Challenge.rw_jo0040_02 = PySem.Challenge.rw_jo0040_02) ∧ (Mine.kmake.heap_1 = Mine.kmake.heap_1) := by k_fill; exact ⟨rfl, rfl⟩
  clear hfill
  have Xs := X
  have hroom' := hd.d
  have hh := hd.h
  refine' enter (Wl := []) (news := []) (binds := [("cls", .ref 691), ("key", .str key t1), ("expiry", .int expiry t2), ("at", .int at_ t3)]) X T (fun _ h => nomatch h) ?ho ?hcd ?hroom ?hbind ?hloc ?_ ?c2 ?c3 ?c4 ?c5
  walk_at "MINE enter"
  intro L' h₁ F N lt
  (try dsimp only [List.reverse, List.reverseAux] at F)
  clear lt Xs
  generalize hg : hideAll s.heap [] = g at *
  change (Mine.kmake.heap_1 w.params).In s.heap at X
  have hgs : s.heap = g := hg
  rw [hgs] at X T
  have q1 := fdiv_bnd (x := at_ - expiry) h0 (by walk_at "MINE om")
  have q2 := fdiv_bnd (x := at_) h0 (by walk_at "MINE om")
  (try k_fold)
  k_steps
  · exact ret _ _ _ _ _ (fun b o e => Fr.keep (by assumption) b o (hgs ▸ e)) (by rw [hgs]; exact (News.fresh (by assumption) (.head _))) (News.get (by assumption) (.head _))


theorem c_info (w : World) (hGet : GetC (Mine.kmake.heap_1 w.params) PySem.Challenge.pw_jo0040_02 w) : InfoC (Mine.kmake.heap_1 w.params) PySem.Challenge.pw_jo0040_02 w := by
  intro p loose mg mb S now os oe ov A s pk ck expiry t1 t2 t3 t4 fs fe c Q E hP hVc hS hE hc h0 hd ret
  have hfill : (PySem.Challenge.rw_jo0040_02 = PySem.Challenge.rw_jo0040_02) ∧ (Mine.kmake.heap_1 = Mine.kmake.heap_1) := by k_fill; exact ⟨rfl, rfl⟩
  clear hfill
  obtain ⟨ok, X, T, I, hs, he, hv⟩ := hP
  obtain ⟨n1, n2, n3, l1, l2, l3, b1⟩ := id ok
  have Xs : (Mine.kmake.heap_1 w.params).In s.heap := X.keeps fun b o e => of_hideAll _ e
  have hroom' := hd.d
  have hh := hd.h
  have hu := hd.u
  refine wpAny_call ?_
  refine' enter (Wl := S.W) (news := [(S.ds, os), (S.de, oe), (S.dv, ov)]) (binds := [("self", .ref S.st), ("previous_key", .str pk t1), ("current_key", .str ck t2), ("expiry", .int expiry t3), ("now", .int now t4)]) X T (own3 hs he hv) ?ho ?hcd ?hroom ?hbind ?hloc ?_ ?c2 ?c3 ?c4 ?c5
  walk_at "MINE enter"
  intro L' h₁ F N lt
  (try dsimp only [List.reverse, List.reverseAux] at F)
  clear hs he hv lt Xs
  generalize hg : hideAll s.heap S.W = g at *
  have i1 := I.i1
  have i2 := I.i2
  obtain ⟨fcc, fcd, fcf, fcs, hfc⟩ := I.fn
  have hb := I.bnd
  (try k_fold)
  k_steps
  · have ep : iPt fs fe now pk expiry = 0 := if_pos (by assumption)
    rw [ep] at ret
    (refine' ret _ _ _ _ _ _ _ _ _ (post_exit hg ?F ?N ?a ?b ?c) ?S ?E ?fr ?tp; (case F => k_asm); (case N => k_asm); (case a => k_mem); (case b => k_mem); (case c => k_mem); (case S => assumption); (case E => assumption); (case fr => exact new_of hg (by assumption) (List.Mem.head _) (by k_mem) (by k_mem) (by k_mem) (ne_of_cls (IObj.cls (by assumption)) rfl (by decide)) (ne_of_cls (IObj.cls (by assumption)) rfl (by decide)) (ne_of_cls hVc rfl (by decide))); (case tp => exact News.get (by assumption) (List.Mem.head _)))
  · have ep : iPt fs fe now pk expiry = expiry - (now - expiry).fmod expiry := if_neg (by assumption)
    rw [ep] at ret
    (refine' ret _ _ _ _ _ _ _ _ _ (post_exit hg ?F ?N ?a ?b ?c) ?S ?E ?fr ?tp; (case F => k_asm); (case N => k_asm); (case a => k_mem); (case b => k_mem); (case c => k_mem); (case S => assumption); (case E => assumption); (case fr => exact new_of hg (by assumption) (List.Mem.head _) (by k_mem) (by k_mem) (by k_mem) (ne_of_cls (IObj.cls (by assumption)) rfl (by decide)) (ne_of_cls (IObj.cls (by assumption)) rfl (by decide)) (ne_of_cls hVc rfl (by decide))); (case tp => exact News.get (by assumption) (List.Mem.head _)))


theorem c_getsw (w : World) (hKeys : KeysC (Mine.kmake.heap_1 w.params) PySem.Challenge.pw_jo0040_02 w) (hInfo : InfoC (Mine.kmake.heap_1 w.params) PySem.Challenge.pw_jo0040_02 w) : GetSwC (Mine.kmake.heap_1 w.params) PySem.Challenge.pw_jo0040_02 w := by
  intro p loose mg mb S now os oe ov A s key expiry t1 t2 fs fe c Q E hP hVc hS hE hc h0 h1 h2 hk hd ret
  have hfill : (PySem.Challenge.rw_jo0040_02 = PySem.Challenge.rw_jo0040_02) ∧ (Mine.kmake.heap_1 = Mine.kmake.heap_1) := by k_fill; exact ⟨rfl, rfl⟩
  clear hfill
  obtain ⟨ok, X, T, I, hs, he, hv⟩ := hP
  obtain ⟨n1, n2, n3, l1, l2, l3, b1⟩ := id ok
  have Xs : (Mine.kmake.heap_1 w.params).In s.heap := X.keeps fun b o e => of_hideAll _ e
  have hroom' := hd.d
  have hh := hd.h
  have hu := hd.u
  refine wpAny_call ?_
  refine' enter (Wl := S.W) (news := [(S.ds, os), (S.de, oe), (S.dv, ov)]) (binds := [("self", .ref S.st), ("key", .str key t1), ("expiry", .int expiry t2)]) X T (own3 hs he hv) ?ho ?hcd ?hroom ?hbind ?hloc ?_ ?c2 ?c3 ?c4 ?c5
  walk_at "MINE enter"
  intro L' h₁ F N lt
  (try dsimp only [List.reverse, List.reverseAux] at F)
  clear hs he hv lt Xs
  generalize hg : hideAll s.heap S.W = g at *
  have i1 := I.i1
  have i2 := I.i2
  obtain ⟨fcc, fcd, fcf, fcs, hfc⟩ := I.fn
  have hb := I.bnd
  (try k_fold)
  k_steps
  · (refine' ret _ _ _ _ _ _ _ _ _ (post_exit hg ?F ?N ?a ?b ?c) ?S ?E ?fr ?tp; (case F => k_asm); (case N => k_asm); (case a => k_mem); (case b => k_mem); (case c => k_mem); (case S => assumption); (case E => assumption); (case fr => exact new_of hg (by assumption) (List.Mem.head _) (by k_mem) (by k_mem) (by k_mem) (ne_of_cls (IObj.cls (by assumption)) rfl (by decide)) (ne_of_cls (IObj.cls (by assumption)) rfl (by decide)) (ne_of_cls hVc rfl (by decide))); (case tp => exact News.get (by assumption) (List.Mem.head _)))
theorem c_clearsw (w : World) (hKeys : KeysC (Mine.kmake.heap_1 w.params) PySem.Challenge.pw_jo0040_02 w) (hClear : ClearC (Mine.kmake.heap_1 w.params) PySem.Challenge.pw_jo0040_02 w) : ClearSwC (Mine.kmake.heap_1 w.params) PySem.Challenge.pw_jo0040_02 w := by
  intro p loose mg mb S now os oe ov A s key expiry t1 t2 fs fe fv lg c Q E hP hS hE hV hc h0 h1 h2 hk hd ret
  have hfill : (PySem.Challenge.rw_jo0040_02 = PySem.Challenge.rw_jo0040_02) ∧ (Mine.kmake.heap_1 = Mine.kmake.heap_1) := by k_fill; exact ⟨rfl, rfl⟩
  clear hfill
  obtain ⟨ok, X, T, I, hs, he, hv⟩ := hP
  obtain ⟨n1, n2, n3, l1, l2, l3, b1⟩ := id ok
  have Xs : (Mine.kmake.heap_1 w.params).In s.heap := X.keeps fun b o e => of_hideAll _ e
  have hroom' := hd.d
  have hh := hd.h
  have hu := hd.u
  refine wpAny_call ?_
  refine' enter (Wl := S.W) (news := [(S.ds, os), (S.de, oe), (S.dv, ov)]) (binds := [("self", .ref S.st), ("key", .str key t1), ("expiry", .int expiry t2)]) X T (own3 hs he hv) ?ho ?hcd ?hroom ?hbind ?hloc ?_ ?c2 ?c3 ?c4 ?c5
  walk_at "MINE enter"
  intro L' h₁ F N lt
  (try dsimp only [List.reverse, List.reverseAux] at F)
  clear hs he hv lt Xs
  generalize hg : hideAll s.heap S.W = g at *
  have i1 := I.i1
  have i2 := I.i2
  obtain ⟨fcc, fcd, fcf, fcs, hfc⟩ := I.fn
  have hb := I.bnd
  (try k_fold)
  k_steps
  · (refine' ret _ _ _ _ _ (post_exit hg ?F ?N ?a ?b ?c) ?S ?E ?V; (case F => k_asm); (case N => k_asm); (case a => k_mem); (case b => k_mem); (case c => k_mem); (case S => assumption); (case E => assumption); (case V => assumption))


theorem c_acqsw (w : World) (hKeys : KeysC (Mine.kmake.heap_1 w.params) PySem.Challenge.pw_jo0040_02 w) (hInfo : InfoC (Mine.kmake.heap_1 w.params) PySem.Challenge.pw_jo0040_02 w) (hIncr : IncrC (Mine.kmake.heap_1 w.params) PySem.Challenge.pw_jo0040_02 w) : AcqSwC (Mine.kmake.heap_1 w.params) PySem.Challenge.pw_jo0040_02 w := by
  intro p loose mg mb S now os oe ov A s key limit expiry amount t1 t2 t3 t4 fs fe c Q E hP hVc hS hE hc h0 h1 h2 hk hbn hd ret
  have hfill : (PySem.Challenge.rw_jo0040_02 = PySem.Challenge.rw_jo0040_02) ∧ (Mine.kmake.heap_1 = Mine.kmake.heap_1) := by k_fill; exact ⟨rfl, rfl⟩
  clear hfill
  obtain ⟨ok, X, T, I, hs, he, hv⟩ := hP
  obtain ⟨n1, n2, n3, l1, l2, l3, b1⟩ := id ok
  have Xs : (Mine.kmake.heap_1 w.params).In s.heap := X.keeps fun b o e => of_hideAll _ e
  have hroom' := hd.d
  have hh := hd.h
  have hu := hd.u
  refine wpAny_call ?_
  refine' enter (Wl := S.W) (news := [(S.ds, os), (S.de, oe), (S.dv, ov)]) (binds := [("self", .ref S.st), ("key", .str key t1), ("limit", .int limit t2), ("expiry", .int expiry t3), ("amount", .int amount t4)]) X T (own3 hs he hv) ?ho ?hcd ?hroom ?hbind ?hloc ?_ ?c2 ?c3 ?c4 ?c5
  walk_at "MINE enter"
  intro L' h₁ F N lt
  (try dsimp only [List.reverse, List.reverseAux] at F)
  clear hs he hv lt Xs
  generalize hg : hideAll s.heap S.W = g at *
  have i1 := I.i1
  have i2 := I.i2
  obtain ⟨fcc, fcd, fcf, fcs, hfc⟩ := I.fn
  have hb := I.bnd
  (try k_fold)
  have q1 := (sGet_bnd (now := now) (fe := fe) (k := kP key now expiry) hbn).2
  have q2 := (sGet_bnd (now := now) (fe := (sGet fs fe now (kP key now expiry)).2.1) (k := kC key now expiry) (sGet_bnd (now := now) (fe := fe) (k := kP key now expiry) hbn).1).2
  have q3 : 0 ≤ iPt fs fe now (kP key now expiry) expiry ∧ iPt fs fe now (kP key now expiry) expiry ≤ expiry := by
    unfold iPt; have := fmod_bnd (x := now - expiry) h0; split <;> walk_at "MINE om"
  have q4 : (sIncr (sInfo fs fe now (kP key now expiry) (kC key now expiry)).1 (sInfo fs fe now (kP key now expiry) (kC key now expiry)).2 now (kC key now expiry) (2 * expiry) amount).2.2 = iCc fs fe now (kP key now expiry) (kC key now expiry) + amount := sIncr_val hb.1
  change 0 ≤ iPc fs fe now (kP key now expiry) ∧ iPc fs fe now (kP key now expiry) < 2 ^ 30 at q1
  change 0 ≤ iCc fs fe now (kP key now expiry) (kC key now expiry) ∧ iCc fs fe now (kP key now expiry) (kC key now expiry) < 2 ^ 30 at q2
  simp only [kP, kC] at q1 q2 q3 q4 ret
  k_steps
  · have er : sAcqSw fs fe now (slk key ((now - expiry).fdiv expiry)) (slk key (now.fdiv expiry)) limit expiry amount = (fs, fe, false) := by unfold sAcqSw; rw [if_pos (by walk_at "MINE om")]
    rw [er] at ret
    (refine' ret _ _ _ _ (post_exit hg ?F ?N ?a ?b ?c) ?S ?E; (case F => k_asm); (case N => k_asm); (case a => k_mem); (case b => k_mem); (case c => k_mem); (case S => first | assumption | exact IObj.le (by assumption) (by walk_at "MINE om")); (case E => first | assumption | exact IObj.le (by assumption) (by walk_at "MINE om")))
  · have er : sAcqSw fs fe now (slk key ((now - expiry).fdiv expiry)) (slk key (now.fdiv expiry)) limit expiry amount = ((sInfo fs fe now (slk key ((now - expiry).fdiv expiry)) (slk key (now.fdiv expiry))).1, (sInfo fs fe now (slk key ((now - expiry).fdiv expiry)) (slk key (now.fdiv expiry))).2, false) := by unfold sAcqSw; rw [if_neg (by walk_at "MINE om"), if_pos (by unfold iW; walk_at "MINE om")]
    rw [er] at ret
    (refine' ret _ _ _ _ (post_exit hg ?F ?N ?a ?b ?c) ?S ?E; (case F => k_asm); (case N => k_asm); (case a => k_mem); (case b => k_mem); (case c => k_mem); (case S => first | assumption | exact IObj.le (by assumption) (by walk_at "MINE om")); (case E => first | assumption | exact IObj.le (by assumption) (by walk_at "MINE om")))
  · have er : sAcqSw fs fe now (slk key ((now - expiry).fdiv expiry)) (slk key (now.fdiv expiry)) limit expiry amount = ((sIncr (sInfo fs fe now (slk key ((now - expiry).fdiv expiry)) (slk key (now.fdiv expiry))).1 (sInfo fs fe now (slk key ((now - expiry).fdiv expiry)) (slk key (now.fdiv expiry))).2 now (slk key (now.fdiv expiry)) (2 * expiry) amount).1, (sIncr (sInfo fs fe now (slk key ((now - expiry).fdiv expiry)) (slk key (now.fdiv expiry))).1 (sInfo fs fe now (slk key ((now - expiry).fdiv expiry)) (slk key (now.fdiv expiry))).2 now (slk key (now.fdiv expiry)) (2 * expiry) amount).2.1, true) := by unfold sAcqSw; rw [if_neg (by walk_at "MINE om"), if_neg (by unfold iW; walk_at "MINE om")]
    rw [er] at ret
    (refine' ret _ _ _ _ (post_exit hg ?F ?N ?a ?b ?c) ?S ?E; (case F => k_asm); (case N => k_asm); (case a => k_mem); (case b => k_mem); (case c => k_mem); (case S => first | assumption | exact IObj.le (by assumption) (by walk_at "MINE om")); (case E => first | assumption | exact IObj.le (by assumption) (by walk_at "MINE om")))


theorem c_entry (w : World) : EntryC (Mine.kmake.heap_1 w.params) PySem.Challenge.pw_jo0040_02 w := by
  have hfill : (PySem.Challenge.rw_jo0040_02 = PySem.Challenge.rw_jo0040_02) ∧ (Mine.kmake.heap_1 = Mine.kmake.heap_1) := by k_fill; exact ⟨rfl, rfl⟩
  clear hfill
  intro p loose mg mb g L m news A s expiry now t1 t2 Q E F0 N0 X0 T0 hn0 hn1 he0 he1 hd ret
  have hroom' := hd.d
  have hh := hd.h
  have hu := hd.u
  refine call_cls F0 X0 N0 (by k_is) (by k_is) (by k_is) fun x dx h' F1 N1 l1 l2 => ?_
  have kk : ∀ b o, g.get? b = some o → (hideAll h' [x, dx]).get? b = some o := hidden F1.keep fun a ha => by
    simp only [List.mem_cons, List.not_mem_nil, or_false] at ha
    rcases ha with rfl | rfl
    · exact (N1 _ (.head _)).2.2
    · exact (N1 _ (.tail _ (.head _))).2.2
  refine' enter (Wl := [x, dx]) (news := [(x, instObj 568 dx), (dx, dictOf [] 0)]) (binds := [("self", .ref x), ("expiry", .int expiry t1), ("atime", .int now t2)]) (X0.keeps kk) (T0.keeps kk) (List.forall_mem_cons.mpr ⟨⟨(N1 _ (.head _)).1, by k_mem⟩, List.forall_mem_cons.mpr ⟨⟨(N1 _ (.tail _ (.head _))).1, by k_mem⟩, fun _ h => nomatch h⟩⟩) ?ho ?hcd ?hroom ?hbind ?hloc ?_ ?c2 ?c3 ?c4 ?c5
  (case ho => k_is); (case hcd => k_is); (case hroom => rw [depth_under_make]; walk_at "MINE om"); (case hbind => exact BindsTo.of_eq rfl); (case c5 => decide); (case hloc => exact locs rfl); (case c2 => exact rfl); (case c3 => exact rfl); (case c4 => exact rfl)
  intro L' h₁ F N lt
  (try dsimp only [List.reverse, List.reverseAux] at F)
  have X := X0.keeps kk
  have T := T0.keeps kk
  clear lt
  have hne : @Ne Nat x dx := Nat.ne_of_gt l2
  have done : ∀ {h₂ m' tk u1 u2 u3 u4}, Fr (hideAll h' [x, dx]) L' h₂ m' → News (hideAll h' [x, dx]) L' h₂ [(x, instObj 568 dx), (dx, dictOf (entryDict w u1 u2 u3 u4 now (now + expiry)) 2)] → Q (.ref x) { s with heap := h₂, toks := tk } := fun Fe Ne =>
    let ⟨Fb, Nb⟩ := back2 F1 N1 l1 l2 Fe Ne
    ret _ _ _ _ _ _ _ _ Fb Nb l1 l2 (fun q hq => Nat.lt_trans (l1 q hq) l2)
  clear X0 T0 F0 N0 ret F1 N1 kk
  generalize hideAll h' [x, dx] = gx at *
  (try k_fold)
  k_steps
  · refine ⟨rfl, ?_⟩
    refine' done (u1 := ?u1) (u2 := ?u2) (u3 := ?u3) (u4 := ?u4) ?F ?N
    (case F => k_asm)
    (case N => assumption)


theorem c_lam1 (w : World) : LamC (Mine.kmake.heap_1 w.params) PySem.Challenge.pw_jo0040_02 w "entry" "atime" Prod.fst := by
  have hfill : (PySem.Challenge.rw_jo0040_02 = PySem.Challenge.rw_jo0040_02) ∧ (Mine.kmake.heap_1 = Mine.kmake.heap_1) := by k_fill; exact ⟨rfl, rfl⟩
  clear hfill
  intro p loose mg mb h f c' pm ctv p1 p2 p3 p4 qual es vs lg X0 T0 hf hcd hents hlg i v k hv hk A s Q E hd hkp ret
  obtain ⟨q1, hq1, ⟨e1, d1, u1, u2, u3, u4, nn1, rfl, hm1, hm2⟩⟩ := hents.at hv
  have hk' : k = -q1.1 := by
    rw [List.getElem?_map, hq1] at hk
    exact (Option.some.inj hk).symm
  subst hk'
  have hg1 : s.heap.get? e1 = some (instObj EntC d1) := hkp _ _ (hlg _ hm1)
  have hg2 : s.heap.get? d1 = some (dictOf (entryDict w u1 u2 u3 u4 q1.1 q1.2) nn1) := hkp _ _ (hlg _ hm2)
  unfold EntC at hg1
  have X : (Mine.kmake.heap_1 w.params).In s.heap := X0.keeps hkp
  have T : TopRead p loose mg mb s.heap := T0.keeps hkp
  obtain ⟨c2, oc, cvs, ct, e2, hoc, hocd, hocv⟩ := hcd
  have hroom' := hd.d
  have hh := hd.h
  have hu := hd.u
  refine wpAny_call (enterL (binds := [("entry", .ref e1)]) T (hkp _ _ hf) ⟨c2, oc, cvs, ct, e2, hkp _ _ hoc, hocd, hocv⟩ (by walk_at "MINE om") rfl (locs rfl) ?_ rfl rfl rfl (by decide))
  intro L' h₁ F N
  (try dsimp only [List.reverse, List.reverseAux] at F)
  clear X0 T0 hf hkp hlg
  generalize s.heap = g at *
  (try k_fold)
  k_steps
  exact ret _ _ _ (Fr.keep (by k_asm))


theorem c_lam2 (w : World) : LamC (Mine.kmake.heap_1 w.params) PySem.Challenge.pw_jo0040_02 w "event" "expiry" Prod.snd := by
  have hfill : (PySem.Challenge.rw_jo0040_02 = PySem.Challenge.rw_jo0040_02) ∧ (Mine.kmake.heap_1 = Mine.kmake.heap_1) := by k_fill; exact ⟨rfl, rfl⟩
  clear hfill
  intro p loose mg mb h f c' pm ctv p1 p2 p3 p4 qual es vs lg X0 T0 hf hcd hents hlg i v k hv hk A s Q E hd hkp ret
  obtain ⟨q1, hq1, ⟨e1, d1, u1, u2, u3, u4, nn1, rfl, hm1, hm2⟩⟩ := hents.at hv
  have hk' : k = -q1.2 := by
    rw [List.getElem?_map, hq1] at hk
    exact (Option.some.inj hk).symm
  subst hk'
  have hg1 : s.heap.get? e1 = some (instObj EntC d1) := hkp _ _ (hlg _ hm1)
  have hg2 : s.heap.get? d1 = some (dictOf (entryDict w u1 u2 u3 u4 q1.1 q1.2) nn1) := hkp _ _ (hlg _ hm2)
  unfold EntC at hg1
  have X : (Mine.kmake.heap_1 w.params).In s.heap := X0.keeps hkp
  have T : TopRead p loose mg mb s.heap := T0.keeps hkp
  obtain ⟨c2, oc, cvs, ct, e2, hoc, hocd, hocv⟩ := hcd
  have hroom' := hd.d
  have hh := hd.h
  have hu := hd.u
  refine wpAny_call (enterL (binds := [("event", .ref e1)]) T (hkp _ _ hf) ⟨c2, oc, cvs, ct, e2, hkp _ _ hoc, hocd, hocv⟩ (by walk_at "MINE om") rfl (locs rfl) ?_ rfl rfl rfl (by decide))
  intro L' h₁ F N
  (try dsimp only [List.reverse, List.reverseAux] at F)
  clear X0 T0 hf hkp hlg
  generalize s.heap = g at *
  (try k_fold)
  k_steps
  exact ret _ _ _ (Fr.keep (by k_asm))


theorem c_safes (w : World) : SafeSC (Mine.kmake.heap_1 w.params) PySem.Challenge.pw_jo0040_02 w := by
  have hfill : (PySem.Challenge.rw_jo0040_02 = PySem.Challenge.rw_jo0040_02) ∧ (Mine.kmake.heap_1 = Mine.kmake.heap_1) := by k_fill; exact ⟨rfl, rfl⟩
  clear hfill
  intro p loose mg mb g0 L m news A s x t1 Q E F0 N0 X0 T0 hx hd ret
  have hroom' := hd.d
  have hh := hd.h
  have hu := hd.u
  have X : (Mine.kmake.heap_1 w.params).In s.heap := X0.keeps F0.keep
  have T : TopRead p loose mg mb s.heap := T0.keeps F0.keep
  refine wpAny_call ?_
  refine' enter (Wl := []) (news := []) (binds := [("value", .str x t1)]) X T (fun _ h => nomatch h) ?ho ?hcd ?hroom ?hbind ?hloc ?_ ?c2 ?c3 ?c4 ?c5
  walk_at "MINE enter"
  intro L' h₁ F N lt
  change Fr s.heap L' h₁ _ at F
  change News s.heap L' h₁ _ at N
  (try dsimp only [List.reverse, List.reverseAux] at F)
  clear lt
  have ret' : ∀ h' tk' t, (∀ b o, s.heap.get? b = some o → h'.get? b = some o) → Q (.str (x) t) { s with heap := h', toks := tk' } := fun h' tk' t k => ret h' tk' t (kept_frame F0 k) (kept_news N0 k)
  clear F0 N0 X0 T0 ret
  generalize hg : s.heap = g at *
  (try k_fold)
  k_steps
  exact ret' _ _ _ (Fr.keep (by k_asm))
theorem c_safei (w : World) : SafeIC (Mine.kmake.heap_1 w.params) PySem.Challenge.pw_jo0040_02 w := by
  have hfill : (PySem.Challenge.rw_jo0040_02 = PySem.Challenge.rw_jo0040_02) ∧ (Mine.kmake.heap_1 = Mine.kmake.heap_1) := by k_fill; exact ⟨rfl, rfl⟩
  clear hfill
  intro p loose mg mb g0 L m news A s i t1 Q E F0 N0 X0 T0 hi0 hi1 hd ret
  have hroom' := hd.d
  have hh := hd.h
  have hu := hd.u
  have X : (Mine.kmake.heap_1 w.params).In s.heap := X0.keeps F0.keep
  have T : TopRead p loose mg mb s.heap := T0.keeps F0.keep
  refine wpAny_call ?_
  refine' enter (Wl := []) (news := []) (binds := [("value", .int i t1)]) X T (fun _ h => nomatch h) ?ho ?hcd ?hroom ?hbind ?hloc ?_ ?c2 ?c3 ?c4 ?c5
  walk_at "MINE enter"
  intro L' h₁ F N lt
  change Fr s.heap L' h₁ _ at F
  change News s.heap L' h₁ _ at N
  (try dsimp only [List.reverse, List.reverseAux] at F)
  clear lt
  have ret' : ∀ h' tk' t, (∀ b o, s.heap.get? b = some o → h'.get? b = some o) → Q (.str (dig i) t) { s with heap := h', toks := tk' } := fun h' tk' t k => ret h' tk' t (kept_frame F0 k) (kept_news N0 k)
  clear F0 N0 X0 T0 ret
  generalize hg : s.heap = g at *
  (try k_fold)
  k_steps
  exact ret' _ _ _ (Fr.keep (by k_asm))

theorem reg_CLw : True := by
  k_with_none
  k_with "MINE pj" => (first | with_reducible assumption | exact an0 (by with_reducible assumption) | exact an1 (by with_reducible assumption) | exact an2 (by with_reducible assumption) | exact an3 (by with_reducible assumption) | exact an4 (by with_reducible assumption) | exact an5 (by with_reducible assumption) | exact an6 (by with_reducible assumption) | exact an7 (by with_reducible assumption) | exact an8 (by with_reducible assumption) | exact an9 (by with_reducible assumption) | exact bn1 (by with_reducible assumption) | exact bn2 (by with_reducible assumption) | exact bn3 (by with_reducible assumption) | exact bn4 (by with_reducible assumption) | exact bn5 (by with_reducible assumption) | exact bn6 (by with_reducible assumption) | exact bn7 (by with_reducible assumption) | exact bn8 (by with_reducible assumption))
  k_with "MINE lt" => (first | walk_at "MINE pj" | (with_reducible refine Nat.lt_trans ?_ (by with_reducible assumption); walk_at "MINE lt"))
  k_with "MINE ne" => (with_reducible refine neN ?_; (try dsimp only); first | with_reducible assumption | (refine Ne.symm ?_; with_reducible assumption) | (refine Nat.ne_of_lt ?_; with_reducible assumption) | (refine Nat.ne_of_gt ?_; with_reducible assumption) | (simp only [*, ne_eq, not_false_eq_true]; done) | (refine Ne.symm ?_; (simp only [*, ne_eq, not_false_eq_true]; done)) | (refine Nat.ne_of_lt ?_; (simp only [*]; done)) | (refine Nat.ne_of_gt ?_; (simp only [*]; done)) | assumption | decide | (refine Nat.ne_of_gt ?_; walk_at "MINE lt") | (refine Nat.ne_of_lt ?_; walk_at "MINE lt") | lia | omega)
  k_with "MINE nes" => (repeat' (first | (refine And.intro ?_ ?_) | (with_reducible refine neN ?_; walk_at "MINE ne")))
  k_with "MINE om" => (first | with_reducible assumption | exact Nat.le_of_ble_eq_true rfl | exact an0 (by with_reducible assumption) | exact bn1 (by with_reducible assumption) | exact an1 (by with_reducible assumption) | exact Nat.lt_of_le_of_lt (Nat.le_add_right _ _) (by with_reducible assumption) | exact Int.lt_trans (by with_reducible assumption) (by decide) | exact Int.lt_trans (bn1 (by with_reducible assumption)) (by decide) | exact Int.lt_of_lt_of_le (by decide) (by with_reducible assumption) | exact Int.lt_of_lt_of_le (by decide) (an0 (by with_reducible assumption)) | exact Nat.le_trans (by with_reducible assumption) (by decide) | exact Int.le_of_lt (by with_reducible assumption) | exact Int.le_trans (by with_reducible assumption) (by decide) | exact Int.lt_of_le_of_lt (by with_reducible assumption) (by decide) | decide | (walk_at "MINE nes"; done) | lia | omega)
  k_with "getMethod ref" => (k_here; k_dflt (refine' dMethI ?N_0 ?m_0 ?d_0 ?i_0 ?_; (case N_0 => k_asm); (case m_0 => k_mem); (case d_0 => k_asm); (case i_0 => exact rfl); k_whole))
  k_with "call builtin:dict.get" => (k_here; k_dflt (refine' dGetI ?N_1 ?m_1 ?d_1 ?lo_1 ?_; (case N_1 => k_asm); (case m_1 => k_mem); (case d_1 => k_asm); (case lo_1 => k_asm); k_whole; intro t'K))
  k_with "call builtin:dict.pop" => (k_here; k_dflt (refine' dPopI ?F_2 ?N_2 ?U_2 ?d_2 ?lo_2 ?z_2 ?_; (case F_2 => k_asm); (case N_2 => k_asm); (case U_2 => k_updF); (case d_2 => k_asm); (case lo_2 => k_asm); (case z_2 => walk_at "MINE om"); k_whole; intro h'K o'K v'K F'K N'K hd'K; (try dsimp only at N'K); (try k_sweep)))
  k_with "getMethod ref" => (k_here; k_dflt (refine' dMethV ?N_3 ?m_3 ?d_3 ?i_3 ?_; (case N_3 => k_asm); (case m_3 => k_mem); (case d_3 => k_asm); (case i_3 => exact rfl); k_whole))
  k_with "call builtin:dict.pop" => (k_here; k_dflt (refine' dPopV ?F_4 ?N_4 ?U_4 ?d_4 ?lo_4 ?z_4 ?_; (case F_4 => k_asm); (case N_4 => k_asm); (case U_4 => k_updF); (case d_4 => k_asm); (case lo_4 => k_asm); (case z_4 => walk_at "MINE om"); k_whole; intro h'K o'K v'K F'K N'K hd'K; (try dsimp only at N'K); (try k_sweep)))
  k_with "setItem ref str" => (k_here; k_dflt (refine' dSetI ?F_5 ?N_5 ?U_5 ?d_5 ?z_5 ?_; (case F_5 => k_asm); (case N_5 => k_asm); (case U_5 => k_updF); (case d_5 => k_asm); (case z_5 => walk_at "MINE om"); k_whole; intro h'K o'K F'K N'K hd'K; (try dsimp only at N'K); (try k_sweep)))
  k_with "subscriptTail" => (k_here; (with_reducible show wpAny _ _ (subscriptTail _ _ (Value.ref _) (Value.str _ _)) _ _ _); k_dflt (refine' dTailI ?N_6 ?m_6 ?d_6 ?_; (case N_6 => k_asm); (case m_6 => k_mem); (case d_6 => k_asm); k_whole))
  k_with "getItem ref str" => (k_here; k_dflt (refine' dItemI ?N_7 ?m_7 ?d_7 ?v_7 ?_; (case N_7 => k_asm); (case m_7 => k_mem); (case d_7 => k_asm); (case v_7 => first | k_asm | exact if_pos rfl); k_whole; intro t'K))
  k_with "getAttr ref" => (k_here; k_dflt (refine' getOwnG ?k1_8 ?k2_8 ?i1_8 ?i2_8 ?k4_8 ?k5_8 ?k6_8 ?k7_8 ?k8_8 ?k9_8 ?_; (case k1_8 => k_asm); (case k2_8 => k_asm); (case i1_8 => k_asm); (case i2_8 => k_asm); (case k4_8 => k_is); (case k5_8 => k_is); (case k6_8 => k_is); (case k7_8 => k_is); (case k8_8 => k_get); (case k9_8 => k_handed); k_whole))
  k_with "getMethod ref" => (k_here; k_dflt (refine' methG ?k1_9 ?k2_9 ?i1_9 ?i2_9 ?k4_9 ?k5_9 ?k6_9 ?k7_9 ?_; (case k1_9 => k_asm); (case k2_9 => k_asm); (case i1_9 => k_asm); (case i2_9 => k_asm); (case k4_9 => k_is); (case k5_9 => k_is); (case k6_9 => k_is); (case k7_9 => k_get); k_whole))
  k_with "getMethod ref" => (k_here; k_dflt (refine' kmuOwnG ?k1_10 ?k2_10 ?i1_10 ?i2_10 ?k4_10 ?k5_10 ?_; (case k1_10 => k_asm); (case k2_10 => k_asm); (case i1_10 => k_asm); (case i2_10 => k_asm); (case k4_10 => k_is); (case k5_10 => k_is); k_whole))
  k_with "callWith ref" => (k_here; (with_reducible show wpAny _ _ (callWith _ (Value.ref _) [] (backTo _ (starEach [] _)) []) _ _ _); k_dflt (refine' callFn0 ?k1_11 ?k2_11 ?_; (case k1_11 => k_asm); (case k2_11 => k_asm); k_whole))
  k_with "callWith ref" => (k_here; (with_reducible show wpAny _ _ (callWith _ (Value.ref _) _ (backTo _ (starEach (_ :: _) _)) []) _ _ _); k_dflt (first | (refine' callWith_K ?k1_12 ?k2_12 ?_; (case k1_12 => k_asm); (case k2_12 => k_is); k_whole) | (refine' callWith_M ?k1_12 ?k2_12 ?k3_12 ?k4_12 ?_; (case k1_12 => k_asm); (case k2_12 => k_asm); (case k3_12 => k_mem); (case k4_12 => k_is); k_whole)))
  k_with "MINE room" => (first | assumption | exact ArOk.down (by assumption) (by walk_at "MINE om"))
  k_with "call ref" => (k_here; k_dflt (refine' clk_use ?C_14 ?F_14 ?N_14 ?d_14 ?_; (case C_14 => k_asm); (case F_14 => k_asm); (case N_14 => k_asm); (case d_14 => walk_at "MINE room"); k_whole; intro h'K tk'K t'K F'K N'K; (try k_sweep)))
  k_with "call ref" => (k_here; (with_reducible show wpAny _ _ (call (Value.ref 616) _) _ _ _); k_dflt (refine' get_use ?C_15 ?ok_15 ?F_15 ?N_15 ?ms_15 ?me_15 ?mv_15 ?U1_15 ?U2_15 ?U3_15 ?X_15 ?T_15 ?I_15 ?hS_15 ?hE_15 ?hc_15 ?hd_15 ?_; (case C_15 => k_asm); (case ok_15 => k_asm); (case F_15 => k_asm); (case N_15 => k_asm); (case ms_15 => k_mem); (case me_15 => k_mem); (case mv_15 => k_mem); (case U1_15 => k_updF); (case U2_15 => (intro xK; k_updF)); (case U3_15 => (intro xK yK; k_updF)); (case X_15 => k_asm); (case T_15 => k_asm); (case I_15 => k_asm); (case hS_15 => k_asm); (case hE_15 => k_asm); (case hc_15 => walk_at "MINE om"); (case hd_15 => walk_at "MINE room"); k_whole; intro h'K tk'K t'K os'K oe'K F'K N'K hS'K hE'K; (try dsimp only at N'K); (try k_sweep)))
  k_with "MINE enter" => (
  (case ho => k_is); (case hcd => k_is); (case hroom => walk_at "MINE om"); (case hbind => first | exact BindsTo.of_eq rfl | exact binds_K (by k_in) rfl (by k_is) rfl rfl rfl);
  (case c5 => decide); (case hloc => exact locs rfl); (case c2 => exact rfl); (case c3 => exact rfl); (case c4 => exact rfl))
  k_with "MINE exit" => ((case F => k_asm); (case N => k_asm); (case a => k_mem); (case b => k_mem); (case c => k_mem))
  k_with "formatField int" => (k_here; (with_reducible show wpAny _ _ (formatField (Value.int _ _) _) _ _ _); k_dflt (refine' fmtI ?a_18 ?b_18 ?_; (case a_18 => walk_at "MINE om"); (case b_18 => walk_at "MINE om"); k_whole; intro hy'K t'K))
  k_with "And" => ((with_reducible show PySem.Str.length (_ ++ _) ≤ sizeLine ∧ wpAny _ _ (joinParts _ _) _ _ _); refine ⟨?a_19, ?_⟩; (case a_19 => (simp only [Str.length_append, Str.empty_append, slk_one, sizeLine_eq]; walk_at "MINE om")))
  k_with "getMethod ref" => (k_here; k_dflt (refine' kmuCmG ?k1_20 ?k2_20 ?k3_20 ?i1_20 ?i2_20 ?k5_20 ?k6_20 ?k7_20 ?k8_20 ?k9_20 ?k10_20 ?k11_20 ?k12_20 ?k13_20 ?_; (case k1_20 => k_asm); (case k2_20 => k_asm); (case k3_20 => k_asm); (case i1_20 => k_asm); (case i2_20 => k_asm); (case k5_20 => k_is); (case k6_20 => k_is); (case k7_20 => k_is); (case k8_20 => k_is); (case k9_20 => k_is); (case k10_20 => k_is); (case k11_20 => decide +kernel); (case k12_20 => k_get); (case k13_20 => k_is); k_whole; intro q'K h'K F'K N'K l1K; (try k_lt l1K); (try k_sweep)))
  k_with "call ref" => (k_here; k_dflt (refine' keys_use ?C_21 ?F_21 ?N_21 ?q_21 ?X_21 ?T_21 ?h0_21 ?h1_21 ?h2_21 ?hk_21 ?hd_21 ?_; (case C_21 => k_asm); (case F_21 => k_asm); (case N_21 => k_asm); (case q_21 => k_mem); (case X_21 => k_asm); (case T_21 => k_asm); (case h0_21 => walk_at "MINE om"); (case h1_21 => walk_at "MINE om"); (case h2_21 => walk_at "MINE om"); (case hk_21 => assumption); (case hd_21 => walk_at "MINE room"); k_whole; intro h'K tk'K tp'K u1K u2K F'K N'K l1K; (try simp only [List.forall_mem_cons, List.not_mem_nil, false_implies, implies_true, and_true] at l1K); (try k_sweep)))
  k_with "call ref" => (k_here; (with_reducible show wpAny _ _ (call (Value.ref 660) _) _ _ _); k_dflt (refine' info_use ?C_22 ?ok_22 ?F_22 ?N_22 ?ms_22 ?me_22 ?mv_22 ?U1_22 ?U2_22 ?U3_22 ?X_22 ?T_22 ?I_22 ?hV_22 ?hS_22 ?hE_22 ?hc_22 ?h0_22 ?hd_22 ?_; (case C_22 => k_asm); (case ok_22 => k_asm); (case F_22 => k_asm); (case N_22 => k_asm); (case ms_22 => k_mem); (case me_22 => k_mem); (case mv_22 => k_mem); (case U1_22 => k_updF); (case U2_22 => (intro xK; k_updF)); (case U3_22 => (intro xK yK; k_updF)); (case X_22 => k_asm); (case T_22 => k_asm); (case I_22 => k_asm); (case hV_22 => k_asm); (case hS_22 => k_asm); (case hE_22 => k_asm); (case hc_22 => walk_at "MINE om"); (case h0_22 => walk_at "MINE om"); (case hd_22 => walk_at "MINE room"); k_whole; intro h'K tk'K os'K oe'K tp'K u1K u2K u3K u4K F'K N'K l1K hS'K hE'K; (try simp only [List.forall_mem_cons, List.not_mem_nil, false_implies, implies_true, and_true] at l1K); (try dsimp only at N'K); (try k_sweep)))
  k_with "call ref" => (k_here; (with_reducible show wpAny _ _ (call (Value.ref 601) _ _) _ _ _); k_dflt (refine' incr_use ?C_23 ?ok_23 ?F_23 ?N_23 ?ms_23 ?me_23 ?mv_23 ?U1_23 ?U2_23 ?U3_23 ?X_23 ?T_23 ?I_23 ?hS_23 ?hE_23 ?hc_23 ?hd_23 ?_; (case C_23 => k_asm); (case ok_23 => k_asm); (case F_23 => k_asm); (case N_23 => k_asm); (case ms_23 => k_mem); (case me_23 => k_mem); (case mv_23 => k_mem); (case U1_23 => k_updF); (case U2_23 => (intro xK; k_updF)); (case U3_23 => (intro xK yK; k_updF)); (case X_23 => k_asm); (case T_23 => k_asm); (case I_23 => k_asm); (case hS_23 => k_asm); (case hE_23 => k_asm); (case hc_23 => walk_at "MINE om"); (case hd_23 => walk_at "MINE room"); k_whole; intro h'K tk'K t'K os'K oe'K F'K N'K hS'K hE'K; (try dsimp only at N'K); (try k_sweep)))
  k_with "call ref" => (k_here; (with_reducible show wpAny _ _ (call (Value.ref 623) _) _ _ _); k_dflt (refine' clear_use ?C_24 ?ok_24 ?F_24 ?N_24 ?ms_24 ?me_24 ?mv_24 ?U1_24 ?U2_24 ?U3_24 ?X_24 ?T_24 ?I_24 ?hS_24 ?hE_24 ?hV_24 ?hc_24 ?hd_24 ?_; (case C_24 => k_asm); (case ok_24 => k_asm); (case F_24 => k_asm); (case N_24 => k_asm); (case ms_24 => k_mem); (case me_24 => k_mem); (case mv_24 => k_mem); (case U1_24 => k_updF); (case U2_24 => (intro xK; k_updF)); (case U3_24 => (intro xK yK; k_updF)); (case X_24 => k_asm); (case T_24 => k_asm); (case I_24 => k_asm); (case hS_24 => k_asm); (case hE_24 => k_asm); (case hV_24 => k_asm); (case hc_24 => walk_at "MINE om"); (case hd_24 => walk_at "MINE room"); k_whole; intro h'K tk'K os'K oe'K ov'K F'K N'K hS'K hE'K hV'K; (try dsimp only at N'K); (try k_sweep)))
  k_with "assign Tuple" => (k_here; (with_reducible show wpAny _ _ (assign (Expr.Tuple _ _ _) _ (Value.ref _)) _ _ _); k_dflt (refine' unpackN_ ?k1_25 ?k2_25 ?k3_25 ?k4_25 ?k5_25 ?k6_25 ?_; (case k1_25 => k_asm); (case k2_25 => k_asm); (case k3_25 => kun_tup); (case k4_25 => assumption); (case k5_25 => exact rfl); (case k6_25 => exact rfl); k_whole); intro h'K F'K N'K; (try k_sweep))
  k_with "binaryOp Mult int int" => (k_here; (first | refine PySem.mul_int ?_ (hm := IntMulOk.of_left (intBits_le_64 (by walk_at "MINE om") (by walk_at "MINE om"))) | refine PySem.mul_int ?_ (hm := IntMulOk.of_right (intBits_le_64 (by walk_at "MINE om") (by walk_at "MINE om")))))
  k_with "assign Tuple" => (k_here; (with_reducible show wpAny _ _ (assign (Expr.Tuple _ _ _) _ (Value.ref _)) _ _ _); (refine' kun_list ?k1_27 ?k2_27 ?k3_27 ?k4_27 ?k5_27 ?k6_27 ?_; (case k1_27 => k_asm); (case k2_27 => k_asm); (case k3_27 => exact lst_at (news_at (by k_asm) (by k_mem))); (case k4_27 => assumption); (case k5_27 => exact rfl); (case k6_27 => exact rfl); k_whole); intro h'K F'K N'K; (try k_sweep))
  k_with "eval Name" => (k_here; k_dflt (refine' nameX_L ?F_zn ?v_zn ?_ ?a_zn ?b_zn; (case F_zn => k_asm); (case a_zn => rfl); (case b_zn => rfl); (case v_zn => rfl); k_whole))
  trivial

theorem c_next (w : World) : NextC (Mine.kmake.heap_1 w.params) PySem.Challenge.pw_jo0040_02 w := by
  have hfill : (PySem.Challenge.rw_jo0040_02 = PySem.Challenge.rw_jo0040_02) ∧ (Mine.kmake.heap_1 = Mine.kmake.heap_1) := by k_fill; exact ⟨rfl, rfl⟩
  clear hfill
  intro p loose mg mb g0 A s hd scr vs ns k many t t2 n0 Q E hsub hhd X0 T0 hl hscr hi hn hk0 hk1 hm0 hm1 har ret
  have hroom' := har.d
  have hh := har.h
  have hu := har.u
  have kk : ∀ b o, g0.get? b = some o → (hideAll s.heap [hd]).get? b = some o := hidden hsub fun a ha => by rw [List.mem_singleton.mp ha]; exact hhd
  have X := X0.keeps kk
  have T := T0.keeps kk
  have hscr' : (hideAll s.heap [hd]).IsList scr vs.toArray := hscr.at fun o e => kk _ _ e
  refine wpAny_call ?_
  refine' enter (Wl := [hd]) (news := [(hd, lstO [.ref scr, .int k t] n0)]) (binds := [("hand", .ref hd), ("many", .int many t2)]) X T (fun q hq => by rw [List.mem_singleton.mp hq]; exact ⟨hl, by simp⟩) ?ho ?hcd ?hroom ?hbind ?hloc ?_ ?c2 ?c3 ?c4 ?c5
  walk_at "MINE enter"
  intro L' h₁ F N lt
  (try dsimp only [List.reverse, List.reverseAux] at F)
  clear lt
  have done : ∀ h' tk' r u u' n' m news, Fr (hideAll s.heap [hd]) L' h' m → News (hideAll s.heap [hd]) L' h' news → (hd, lstO [.ref scr, .int (k + 1) u'] n') ∈ news → 0 ≤ r → r < many → Q (.int r u) { s with heap := h', toks := tk' } :=
    fun h' tk' r u u' n' m news Fe Ne me => ret h' tk' r u u' n' (fun b o e ne => Fe.keep b o (hideAll_get _ e (by simpa using ne))) (Ne _ me).1
  clear ret X0 T0 hl hsub hhd hscr kk
  generalize hg : hideAll s.heap [hd] = g at *
  (try k_fold)
  k_steps
  · have hb := fmod_bnd (x := 13 * k + 5) (e := many) (by walk_at "MINE om")
    (refine' done _ _ _ _ _ _ _ _ ?F ?N ?m hb.1 hb.2; (case F => k_asm); (case N => k_asm); (case m => k_mem))
  · (refine' done _ _ _ _ _ _ _ _ ?F ?N ?m (fmod_bnd (by walk_at "MINE om")).1 (fmod_bnd (by walk_at "MINE om")).2; (case F => k_asm); (case N => k_asm); (case m => k_mem))

theorem reg_CLm : True := by
  k_with_none
  k_with "MINE pj" => (first | with_reducible assumption | exact an0 (by with_reducible assumption) | exact an1 (by with_reducible assumption) | exact an2 (by with_reducible assumption) | exact an3 (by with_reducible assumption) | exact an4 (by with_reducible assumption) | exact an5 (by with_reducible assumption) | exact an6 (by with_reducible assumption) | exact an7 (by with_reducible assumption) | exact an8 (by with_reducible assumption) | exact an9 (by with_reducible assumption) | exact bn1 (by with_reducible assumption) | exact bn2 (by with_reducible assumption) | exact bn3 (by with_reducible assumption) | exact bn4 (by with_reducible assumption) | exact bn5 (by with_reducible assumption) | exact bn6 (by with_reducible assumption) | exact bn7 (by with_reducible assumption) | exact bn8 (by with_reducible assumption))
  k_with "MINE lt" => (first | walk_at "MINE pj" | (with_reducible refine Nat.lt_trans ?_ (by with_reducible assumption); walk_at "MINE lt"))
  k_with "MINE ne" => (with_reducible refine neN ?_; (try dsimp only); first | with_reducible assumption | (refine Ne.symm ?_; with_reducible assumption) | (refine Nat.ne_of_lt ?_; with_reducible assumption) | (refine Nat.ne_of_gt ?_; with_reducible assumption) | (simp only [*, ne_eq, not_false_eq_true]; done) | (refine Ne.symm ?_; (simp only [*, ne_eq, not_false_eq_true]; done)) | (refine Nat.ne_of_lt ?_; (simp only [*]; done)) | (refine Nat.ne_of_gt ?_; (simp only [*]; done)) | assumption | decide | (refine Nat.ne_of_gt ?_; walk_at "MINE lt") | (refine Nat.ne_of_lt ?_; walk_at "MINE lt") | lia | omega)
  k_with "MINE nes" => (repeat' (first | (refine And.intro ?_ ?_) | (with_reducible refine neN ?_; walk_at "MINE ne")))
  k_with "MINE om" => (first | with_reducible assumption | exact Nat.le_of_ble_eq_true rfl | exact an0 (by with_reducible assumption) | exact bn1 (by with_reducible assumption) | exact an1 (by with_reducible assumption) | exact Nat.lt_of_le_of_lt (Nat.le_add_right _ _) (by with_reducible assumption) | exact Int.lt_trans (by with_reducible assumption) (by decide) | exact Int.lt_trans (bn1 (by with_reducible assumption)) (by decide) | exact Int.lt_of_lt_of_le (by decide) (by with_reducible assumption) | exact Int.lt_of_lt_of_le (by decide) (an0 (by with_reducible assumption)) | exact Nat.le_trans (by with_reducible assumption) (by decide) | exact Int.le_of_lt (by with_reducible assumption) | exact Int.le_trans (by with_reducible assumption) (by decide) | exact Int.lt_of_le_of_lt (by with_reducible assumption) (by decide) | decide | (walk_at "MINE nes"; done) | lia | omega)
  k_with "getMethod ref" => (k_here; k_dflt (refine' dMethI ?N_0 ?m_0 ?d_0 ?i_0 ?_; (case N_0 => k_asm); (case m_0 => k_mem); (case d_0 => k_asm); (case i_0 => exact rfl); k_whole))
  k_with "call builtin:dict.get" => (k_here; k_dflt (refine' dGetI ?N_1 ?m_1 ?d_1 ?lo_1 ?_; (case N_1 => k_asm); (case m_1 => k_mem); (case d_1 => k_asm); (case lo_1 => k_asm); k_whole; intro t'K))
  k_with "call builtin:dict.pop" => (k_here; k_dflt (refine' dPopI ?F_2 ?N_2 ?U_2 ?d_2 ?lo_2 ?z_2 ?_; (case F_2 => k_asm); (case N_2 => k_asm); (case U_2 => k_updF); (case d_2 => k_asm); (case lo_2 => k_asm); (case z_2 => walk_at "MINE om"); k_whole; intro h'K o'K v'K F'K N'K hd'K; (try dsimp only at N'K); (try k_sweep)))
  k_with "getMethod ref" => (k_here; k_dflt (refine' dMethV ?N_3 ?m_3 ?d_3 ?i_3 ?_; (case N_3 => k_asm); (case m_3 => k_mem); (case d_3 => k_asm); (case i_3 => exact rfl); k_whole))
  k_with "call builtin:dict.pop" => (k_here; k_dflt (refine' dPopV ?F_4 ?N_4 ?U_4 ?d_4 ?lo_4 ?z_4 ?_; (case F_4 => k_asm); (case N_4 => k_asm); (case U_4 => k_updF); (case d_4 => k_asm); (case lo_4 => k_asm); (case z_4 => walk_at "MINE om"); k_whole; intro h'K o'K v'K F'K N'K hd'K; (try dsimp only at N'K); (try k_sweep)))
  k_with "setItem ref str" => (k_here; k_dflt (refine' dSetI ?F_5 ?N_5 ?U_5 ?d_5 ?z_5 ?_; (case F_5 => k_asm); (case N_5 => k_asm); (case U_5 => k_updF); (case d_5 => k_asm); (case z_5 => walk_at "MINE om"); k_whole; intro h'K o'K F'K N'K hd'K; (try dsimp only at N'K); (try k_sweep)))
  k_with "subscriptTail" => (k_here; (with_reducible show wpAny _ _ (subscriptTail _ _ (Value.ref _) (Value.str _ _)) _ _ _); k_dflt (refine' dTailI ?N_6 ?m_6 ?d_6 ?_; (case N_6 => k_asm); (case m_6 => k_mem); (case d_6 => k_asm); k_whole))
  k_with "getItem ref str" => (k_here; k_dflt (refine' dItemI ?N_7 ?m_7 ?d_7 ?v_7 ?_; (case N_7 => k_asm); (case m_7 => k_mem); (case d_7 => k_asm); (case v_7 => first | k_asm | exact if_pos rfl); k_whole; intro t'K))
  k_with "getAttr ref" => (k_here; k_dflt (refine' getOwnG ?k1_8 ?k2_8 ?i1_8 ?i2_8 ?k4_8 ?k5_8 ?k6_8 ?k7_8 ?k8_8 ?k9_8 ?_; (case k1_8 => k_asm); (case k2_8 => k_asm); (case i1_8 => k_asm); (case i2_8 => k_asm); (case k4_8 => k_is); (case k5_8 => k_is); (case k6_8 => k_is); (case k7_8 => k_is); (case k8_8 => k_get); (case k9_8 => k_handed); k_whole))
  k_with "getMethod ref" => (k_here; k_dflt (refine' methG ?k1_9 ?k2_9 ?i1_9 ?i2_9 ?k4_9 ?k5_9 ?k6_9 ?k7_9 ?_; (case k1_9 => k_asm); (case k2_9 => k_asm); (case i1_9 => k_asm); (case i2_9 => k_asm); (case k4_9 => k_is); (case k5_9 => k_is); (case k6_9 => k_is); (case k7_9 => k_get); k_whole))
  k_with "getMethod ref" => (k_here; k_dflt (refine' kmuOwnG ?k1_10 ?k2_10 ?i1_10 ?i2_10 ?k4_10 ?k5_10 ?_; (case k1_10 => k_asm); (case k2_10 => k_asm); (case i1_10 => k_asm); (case i2_10 => k_asm); (case k4_10 => k_is); (case k5_10 => k_is); k_whole))
  k_with "callWith ref" => (k_here; (with_reducible show wpAny _ _ (callWith _ (Value.ref _) [] (backTo _ (starEach [] _)) []) _ _ _); k_dflt (refine' callFn0 ?k1_11 ?k2_11 ?_; (case k1_11 => k_asm); (case k2_11 => k_asm); k_whole))
  k_with "callWith ref" => (k_here; (with_reducible show wpAny _ _ (callWith _ (Value.ref _) _ (backTo _ (starEach (_ :: _) _)) []) _ _ _); k_dflt (first | (refine' callWith_K ?k1_12 ?k2_12 ?_; (case k1_12 => k_asm); (case k2_12 => k_is); k_whole) | (refine' callWith_M ?k1_12 ?k2_12 ?k3_12 ?k4_12 ?_; (case k1_12 => k_asm); (case k2_12 => k_asm); (case k3_12 => k_mem); (case k4_12 => k_is); k_whole)))
  k_with "MINE room" => (first | assumption | exact ArOk.down (by assumption) (by walk_at "MINE om"))
  k_with "call ref" => (k_here; k_dflt (refine' clk_use ?C_14 ?F_14 ?N_14 ?d_14 ?_; (case C_14 => k_asm); (case F_14 => k_asm); (case N_14 => k_asm); (case d_14 => walk_at "MINE room"); k_whole; intro h'K tk'K t'K F'K N'K; (try k_sweep)))
  k_with "call ref" => (k_here; (with_reducible show wpAny _ _ (call (Value.ref 616) _) _ _ _); k_dflt (refine' get_use ?C_15 ?ok_15 ?F_15 ?N_15 ?ms_15 ?me_15 ?mv_15 ?U1_15 ?U2_15 ?U3_15 ?X_15 ?T_15 ?I_15 ?hS_15 ?hE_15 ?hc_15 ?hd_15 ?_; (case C_15 => k_asm); (case ok_15 => k_asm); (case F_15 => k_asm); (case N_15 => k_asm); (case ms_15 => k_mem); (case me_15 => k_mem); (case mv_15 => k_mem); (case U1_15 => k_updF); (case U2_15 => (intro xK; k_updF)); (case U3_15 => (intro xK yK; k_updF)); (case X_15 => k_asm); (case T_15 => k_asm); (case I_15 => k_asm); (case hS_15 => k_asm); (case hE_15 => k_asm); (case hc_15 => walk_at "MINE om"); (case hd_15 => walk_at "MINE room"); k_whole; intro h'K tk'K t'K os'K oe'K F'K N'K hS'K hE'K; (try dsimp only at N'K); (try k_sweep)))
  k_with "MINE enter" => (
  (case ho => k_is); (case hcd => k_is); (case hroom => walk_at "MINE om"); (case hbind => first | exact BindsTo.of_eq rfl | exact binds_K (by k_in) rfl (by k_is) rfl rfl rfl);
  (case c5 => decide); (case hloc => exact locs rfl); (case c2 => exact rfl); (case c3 => exact rfl); (case c4 => exact rfl))
  k_with "MINE exit" => ((case F => k_asm); (case N => k_asm); (case a => k_mem); (case b => k_mem); (case c => k_mem))
  k_with "formatField int" => (k_here; (with_reducible show wpAny _ _ (formatField (Value.int _ _) _) _ _ _); k_dflt (refine' fmtI ?a_18 ?b_18 ?_; (case a_18 => walk_at "MINE om"); (case b_18 => walk_at "MINE om"); k_whole; intro hy'K t'K))
  k_with "And" => ((with_reducible show PySem.Str.length (_ ++ _) ≤ sizeLine ∧ wpAny _ _ (joinParts _ _) _ _ _); refine ⟨?a_19, ?_⟩; (case a_19 => (simp only [Str.length_append, Str.empty_append, slk_one, sizeLine_eq]; walk_at "MINE om")))
  k_with "getMethod ref" => (k_here; k_dflt (refine' kmuCmG ?k1_20 ?k2_20 ?k3_20 ?i1_20 ?i2_20 ?k5_20 ?k6_20 ?k7_20 ?k8_20 ?k9_20 ?k10_20 ?k11_20 ?k12_20 ?k13_20 ?_; (case k1_20 => k_asm); (case k2_20 => k_asm); (case k3_20 => k_asm); (case i1_20 => k_asm); (case i2_20 => k_asm); (case k5_20 => k_is); (case k6_20 => k_is); (case k7_20 => k_is); (case k8_20 => k_is); (case k9_20 => k_is); (case k10_20 => k_is); (case k11_20 => decide +kernel); (case k12_20 => k_get); (case k13_20 => k_is); k_whole; intro q'K h'K F'K N'K l1K; (try k_lt l1K); (try k_sweep)))
  k_with "call ref" => (k_here; k_dflt (refine' keys_use ?C_21 ?F_21 ?N_21 ?q_21 ?X_21 ?T_21 ?h0_21 ?h1_21 ?h2_21 ?hk_21 ?hd_21 ?_; (case C_21 => k_asm); (case F_21 => k_asm); (case N_21 => k_asm); (case q_21 => k_mem); (case X_21 => k_asm); (case T_21 => k_asm); (case h0_21 => walk_at "MINE om"); (case h1_21 => walk_at "MINE om"); (case h2_21 => walk_at "MINE om"); (case hk_21 => assumption); (case hd_21 => walk_at "MINE room"); k_whole; intro h'K tk'K tp'K u1K u2K F'K N'K l1K; (try simp only [List.forall_mem_cons, List.not_mem_nil, false_implies, implies_true, and_true] at l1K); (try k_sweep)))
  k_with "call ref" => (k_here; (with_reducible show wpAny _ _ (call (Value.ref 660) _) _ _ _); k_dflt (refine' info_use ?C_22 ?ok_22 ?F_22 ?N_22 ?ms_22 ?me_22 ?mv_22 ?U1_22 ?U2_22 ?U3_22 ?X_22 ?T_22 ?I_22 ?hV_22 ?hS_22 ?hE_22 ?hc_22 ?h0_22 ?hd_22 ?_; (case C_22 => k_asm); (case ok_22 => k_asm); (case F_22 => k_asm); (case N_22 => k_asm); (case ms_22 => k_mem); (case me_22 => k_mem); (case mv_22 => k_mem); (case U1_22 => k_updF); (case U2_22 => (intro xK; k_updF)); (case U3_22 => (intro xK yK; k_updF)); (case X_22 => k_asm); (case T_22 => k_asm); (case I_22 => k_asm); (case hV_22 => k_asm); (case hS_22 => k_asm); (case hE_22 => k_asm); (case hc_22 => walk_at "MINE om"); (case h0_22 => walk_at "MINE om"); (case hd_22 => walk_at "MINE room"); k_whole; intro h'K tk'K os'K oe'K tp'K u1K u2K u3K u4K F'K N'K l1K hS'K hE'K; (try simp only [List.forall_mem_cons, List.not_mem_nil, false_implies, implies_true, and_true] at l1K); (try dsimp only at N'K); (try k_sweep)))
  k_with "call ref" => (k_here; (with_reducible show wpAny _ _ (call (Value.ref 601) _ _) _ _ _); k_dflt (refine' incr_use ?C_23 ?ok_23 ?F_23 ?N_23 ?ms_23 ?me_23 ?mv_23 ?U1_23 ?U2_23 ?U3_23 ?X_23 ?T_23 ?I_23 ?hS_23 ?hE_23 ?hc_23 ?hd_23 ?_; (case C_23 => k_asm); (case ok_23 => k_asm); (case F_23 => k_asm); (case N_23 => k_asm); (case ms_23 => k_mem); (case me_23 => k_mem); (case mv_23 => k_mem); (case U1_23 => k_updF); (case U2_23 => (intro xK; k_updF)); (case U3_23 => (intro xK yK; k_updF)); (case X_23 => k_asm); (case T_23 => k_asm); (case I_23 => k_asm); (case hS_23 => k_asm); (case hE_23 => k_asm); (case hc_23 => walk_at "MINE om"); (case hd_23 => walk_at "MINE room"); k_whole; intro h'K tk'K t'K os'K oe'K F'K N'K hS'K hE'K; (try dsimp only at N'K); (try k_sweep)))
  k_with "call ref" => (k_here; (with_reducible show wpAny _ _ (call (Value.ref 623) _) _ _ _); k_dflt (refine' clear_use ?C_24 ?ok_24 ?F_24 ?N_24 ?ms_24 ?me_24 ?mv_24 ?U1_24 ?U2_24 ?U3_24 ?X_24 ?T_24 ?I_24 ?hS_24 ?hE_24 ?hV_24 ?hc_24 ?hd_24 ?_; (case C_24 => k_asm); (case ok_24 => k_asm); (case F_24 => k_asm); (case N_24 => k_asm); (case ms_24 => k_mem); (case me_24 => k_mem); (case mv_24 => k_mem); (case U1_24 => k_updF); (case U2_24 => (intro xK; k_updF)); (case U3_24 => (intro xK yK; k_updF)); (case X_24 => k_asm); (case T_24 => k_asm); (case I_24 => k_asm); (case hS_24 => k_asm); (case hE_24 => k_asm); (case hV_24 => k_asm); (case hc_24 => walk_at "MINE om"); (case hd_24 => walk_at "MINE room"); k_whole; intro h'K tk'K os'K oe'K ov'K F'K N'K hS'K hE'K hV'K; (try dsimp only at N'K); (try k_sweep)))
  k_with "assign Tuple" => (k_here; (with_reducible show wpAny _ _ (assign (Expr.Tuple _ _ _) _ (Value.ref _)) _ _ _); k_dflt (refine' unpackN_ ?k1_25 ?k2_25 ?k3_25 ?k4_25 ?k5_25 ?k6_25 ?_; (case k1_25 => k_asm); (case k2_25 => k_asm); (case k3_25 => kun_tup); (case k4_25 => assumption); (case k5_25 => exact rfl); (case k6_25 => exact rfl); k_whole); intro h'K F'K N'K; (try k_sweep))
  k_with "binaryOp Mult int int" => (k_here; (first | refine PySem.mul_int ?_ (hm := IntMulOk.of_left (intBits_le_64 (by walk_at "MINE om") (by walk_at "MINE om"))) | refine PySem.mul_int ?_ (hm := IntMulOk.of_right (intBits_le_64 (by walk_at "MINE om") (by walk_at "MINE om")))))
  k_with "call ref" => (k_here; (refine' limnew_use ?C_27 ?F_27 ?N_27 ?X_27 ?T_27 ?d_27 ?_; (case C_27 => assumption); (case F_27 => k_asm); (case N_27 => k_asm); (case X_27 => k_asm); (case T_27 => k_asm); (case d_27 => walk_at "MINE room"); k_whole; intro h'K tk'K x'K d'K t1K F'K N'K l1K l2K))
  k_with "eval Name" => (k_here; k_dflt (refine' nameX_L ?F_zn ?v_zn ?_ ?a_zn ?b_zn; (case F_zn => k_asm); (case a_zn => rfl); (case b_zn => rfl); (case v_zn => rfl); k_whole))
  trivial

theorem c_limsnew (w : World) (h0 : LimNewC (Mine.kmake.heap_1 w.params) PySem.Challenge.pw_jo0040_02 w 241) (h1 : LimNewC (Mine.kmake.heap_1 w.params) PySem.Challenge.pw_jo0040_02 w 202) (h2 : LimNewC (Mine.kmake.heap_1 w.params) PySem.Challenge.pw_jo0040_02 w 296) : LimsNewC (Mine.kmake.heap_1 w.params) PySem.Challenge.pw_jo0040_02 w := by
  have hfill : (PySem.Challenge.rw_jo0040_02 = PySem.Challenge.rw_jo0040_02) ∧ (Mine.kmake.heap_1 = Mine.kmake.heap_1) := by k_fill; exact ⟨rfl, rfl⟩
  clear hfill
  intro p loose mg mb g0 L0 m0 news0 A s st Q E F0 N0 X0 T0 hd ret
  have hroom' := hd.d
  have hh := hd.h
  have hu := hd.u
  have X := X0.keeps F0.keep
  have T := T0.keeps F0.keep
  refine wpAny_call ?_
  refine' enter (Wl := []) (news := []) (binds := [("store", .ref st)]) X T (fun _ h => nomatch h) ?ho ?hcd ?hroom ?hbind ?hloc ?_ ?c2 ?c3 ?c4 ?c5
  walk_at "MINE enter"
  intro L' h₁ F N lt
  change Fr s.heap L' h₁ _ at F
  change News s.heap L' h₁ _ at N
  (try dsimp only [List.reverse, List.reverseAux] at F)
  clear lt
  have led : ∀ h₂ m' newsX, Fr s.heap L' h₂ m' → News s.heap L' h₂ newsX → ∀ q ∈ newsX, (h₂.get? q.1 = some q.2 ∧ q.1 ≠ L0 ∧ g0.get? q.1 = none) ∧ ∀ r ∈ news0, @Ne Nat r.1 q.1 := fun h₂ m' newsX Fe Ne q hq =>
    ⟨fresh_news F0 (kept_news N0 Fe.keep) (Ne q hq).2.2 (Ne q hq).1 _ (.head _), fresh_ne N0 (Ne q hq).2.2⟩
  have fin : ∀ h₂ m', Fr s.heap L' h₂ m' → Fr g0 L0 h₂ m0 ∧ News g0 L0 h₂ news0 := fun h₂ m' Fe => ⟨kept_frame F0 Fe.keep, kept_news N0 Fe.keep⟩
  clear X0 T0 F0 N0
  generalize hg : s.heap = g at *
  (try k_fold)
  k_steps
  (have t'K := trivial; have h'K := trivial; have o'K := trivial; have F'K := trivial; have N'K := trivial; have hd'K := trivial; have v'K := trivial; have tk'K := trivial; have oe'K := trivial; have yK := trivial; have hE'K := trivial; have hS'K := trivial; have xK := trivial; have os'K := trivial; have hy'K := trivial; have q'K := trivial; have l1K := trivial; have tp'K := trivial; have u2K := trivial; have u1K := trivial; have u3K := trivial; have u4K := trivial; have hV'K := trivial; have ov'K := trivial; have d'K := trivial; have l2K := trivial; have x'K := trivial; have t1K := trivial); rename_i x0 d0 t0 q0 r0 hA tA x1 d1 t1 q1 r1 hB tB x2 d2 t2 q2 r2 l hz Fz Nz ql
  have hl := led _ _ _ Fz Nz
  obtain ⟨Fb, Nb⟩ := fin _ _ Fz
  have m0 := hl (x0, instObj 241 d0) (by k_mem)
  have m1 := hl (d0, limD w t0 st) (by k_mem)
  have m2 := hl (x1, instObj 202 d1) (by k_mem)
  have m3 := hl (d1, limD w t1 st) (by k_mem)
  have m4 := hl (x2, instObj 296 d2) (by k_mem)
  have m5 := hl (d2, limD w t2 st) (by k_mem)
  have m6 := hl (l, lstO [.ref x0, .ref x1, .ref x2] 0) (.head _)
  exact ret _ _ l x0 x1 x2 [(x0, instObj 241 d0), (d0, limD w t0 st), (x1, instObj 202 d1), (d1, limD w t1 st), (x2, instObj 296 d2), (d2, limD w t2 st)] Fb (ncons m6.1 (ncons m0.1 (ncons m1.1 (ncons m2.1 (ncons m3.1 (ncons m4.1 (ncons m5.1 Nb))))))) m6.2
    (by simp only [List.forall_mem_cons]; exact ⟨m0.2, m1.2, m2.2, m3.2, m4.2, m5.2, fun _ h => nomatch h⟩) ⟨d0, d1, d2, t0, t1, t2, rfl⟩

theorem reg_CAcq : True := by
  k_with_none
  k_with "MINE pj" => (first | with_reducible assumption | exact an0 (by with_reducible assumption) | exact an1 (by with_reducible assumption) | exact an2 (by with_reducible assumption) | exact an3 (by with_reducible assumption) | exact an4 (by with_reducible assumption) | exact an5 (by with_reducible assumption) | exact an6 (by with_reducible assumption) | exact an7 (by with_reducible assumption) | exact an8 (by with_reducible assumption) | exact an9 (by with_reducible assumption) | exact bn1 (by with_reducible assumption) | exact bn2 (by with_reducible assumption) | exact bn3 (by with_reducible assumption) | exact bn4 (by with_reducible assumption) | exact bn5 (by with_reducible assumption) | exact bn6 (by with_reducible assumption) | exact bn7 (by with_reducible assumption) | exact bn8 (by with_reducible assumption))
  k_with "MINE lt" => (first | walk_at "MINE pj" | (with_reducible refine Nat.lt_trans ?_ (by with_reducible assumption); walk_at "MINE lt"))
  k_with "MINE ne" => (with_reducible refine neN ?_; (try dsimp only); first | with_reducible assumption | (refine Ne.symm ?_; with_reducible assumption) | (refine Nat.ne_of_lt ?_; with_reducible assumption) | (refine Nat.ne_of_gt ?_; with_reducible assumption) | (simp only [*, ne_eq, not_false_eq_true]; done) | (refine Ne.symm ?_; (simp only [*, ne_eq, not_false_eq_true]; done)) | (refine Nat.ne_of_lt ?_; (simp only [*]; done)) | (refine Nat.ne_of_gt ?_; (simp only [*]; done)) | assumption | decide | (refine Nat.ne_of_gt ?_; walk_at "MINE lt") | (refine Nat.ne_of_lt ?_; walk_at "MINE lt") | lia | omega)
  k_with "MINE nes" => (repeat' (first | (refine And.intro ?_ ?_) | (with_reducible refine neN ?_; walk_at "MINE ne")))
  k_with "MINE om" => (first | with_reducible assumption | exact Nat.le_of_ble_eq_true rfl | exact an0 (by with_reducible assumption) | exact bn1 (by with_reducible assumption) | exact an1 (by with_reducible assumption) | exact Nat.lt_of_le_of_lt (Nat.le_add_right _ _) (by with_reducible assumption) | exact Int.lt_trans (by with_reducible assumption) (by decide) | exact Int.lt_trans (bn1 (by with_reducible assumption)) (by decide) | exact Int.lt_of_lt_of_le (by decide) (by with_reducible assumption) | exact Int.lt_of_lt_of_le (by decide) (an0 (by with_reducible assumption)) | exact Nat.le_trans (by with_reducible assumption) (by decide) | exact Int.le_of_lt (by with_reducible assumption) | exact Int.le_trans (by with_reducible assumption) (by decide) | exact Int.lt_of_le_of_lt (by with_reducible assumption) (by decide) | decide | (walk_at "MINE nes"; done) | lia | omega)
  k_with "getMethod ref" => (k_here; k_dflt (refine' dMethI ?N_0 ?m_0 ?d_0 ?i_0 ?_; (case N_0 => k_asm); (case m_0 => k_mem); (case d_0 => k_asm); (case i_0 => exact rfl); k_whole))
  k_with "call builtin:dict.get" => (k_here; k_dflt (refine' dGetI ?N_1 ?m_1 ?d_1 ?lo_1 ?_; (case N_1 => k_asm); (case m_1 => k_mem); (case d_1 => k_asm); (case lo_1 => k_asm); k_whole; intro t'K))
  k_with "call builtin:dict.pop" => (k_here; k_dflt (refine' dPopI ?F_2 ?N_2 ?U_2 ?d_2 ?lo_2 ?z_2 ?_; (case F_2 => k_asm); (case N_2 => k_asm); (case U_2 => k_updF); (case d_2 => k_asm); (case lo_2 => k_asm); (case z_2 => walk_at "MINE om"); k_whole; intro h'K o'K v'K F'K N'K hd'K; (try dsimp only at N'K); (try k_sweep)))
  k_with "getMethod ref" => (k_here; k_dflt (refine' dMethV ?N_3 ?m_3 ?d_3 ?i_3 ?_; (case N_3 => k_asm); (case m_3 => k_mem); (case d_3 => k_asm); (case i_3 => exact rfl); k_whole))
  k_with "call builtin:dict.pop" => (k_here; k_dflt (refine' dPopV ?F_4 ?N_4 ?U_4 ?d_4 ?lo_4 ?z_4 ?_; (case F_4 => k_asm); (case N_4 => k_asm); (case U_4 => k_updF); (case d_4 => k_asm); (case lo_4 => k_asm); (case z_4 => walk_at "MINE om"); k_whole; intro h'K o'K v'K F'K N'K hd'K; (try dsimp only at N'K); (try k_sweep)))
  k_with "setItem ref str" => (k_here; k_dflt (refine' dSetI ?F_5 ?N_5 ?U_5 ?d_5 ?z_5 ?_; (case F_5 => k_asm); (case N_5 => k_asm); (case U_5 => k_updF); (case d_5 => k_asm); (case z_5 => walk_at "MINE om"); k_whole; intro h'K o'K F'K N'K hd'K; (try dsimp only at N'K); (try k_sweep)))
  k_with "subscriptTail" => (k_here; (with_reducible show wpAny _ _ (subscriptTail _ _ (Value.ref _) (Value.str _ _)) _ _ _); k_dflt (refine' dTailI ?N_6 ?m_6 ?d_6 ?_; (case N_6 => k_asm); (case m_6 => k_mem); (case d_6 => k_asm); k_whole))
  k_with "getItem ref str" => (k_here; k_dflt (refine' dItemI ?N_7 ?m_7 ?d_7 ?v_7 ?_; (case N_7 => k_asm); (case m_7 => k_mem); (case d_7 => k_asm); (case v_7 => first | k_asm | exact if_pos rfl); k_whole; intro t'K))
  k_with "getAttr ref" => (k_here; k_dflt (refine' getOwnG ?k1_8 ?k2_8 ?i1_8 ?i2_8 ?k4_8 ?k5_8 ?k6_8 ?k7_8 ?k8_8 ?k9_8 ?_; (case k1_8 => k_asm); (case k2_8 => k_asm); (case i1_8 => k_asm); (case i2_8 => k_asm); (case k4_8 => k_is); (case k5_8 => k_is); (case k6_8 => k_is); (case k7_8 => k_is); (case k8_8 => k_get); (case k9_8 => k_handed); k_whole))
  k_with "getMethod ref" => (k_here; k_dflt (refine' methG ?k1_9 ?k2_9 ?i1_9 ?i2_9 ?k4_9 ?k5_9 ?k6_9 ?k7_9 ?_; (case k1_9 => k_asm); (case k2_9 => k_asm); (case i1_9 => k_asm); (case i2_9 => k_asm); (case k4_9 => k_is); (case k5_9 => k_is); (case k6_9 => k_is); (case k7_9 => k_get); k_whole))
  k_with "getMethod ref" => (k_here; k_dflt (refine' kmuOwnG ?k1_10 ?k2_10 ?i1_10 ?i2_10 ?k4_10 ?k5_10 ?_; (case k1_10 => k_asm); (case k2_10 => k_asm); (case i1_10 => k_asm); (case i2_10 => k_asm); (case k4_10 => k_is); (case k5_10 => k_is); k_whole))
  k_with "callWith ref" => (k_here; (with_reducible show wpAny _ _ (callWith _ (Value.ref _) [] (backTo _ (starEach [] _)) []) _ _ _); k_dflt (refine' callFn0 ?k1_11 ?k2_11 ?_; (case k1_11 => k_asm); (case k2_11 => k_asm); k_whole))
  k_with "callWith ref" => (k_here; (with_reducible show wpAny _ _ (callWith _ (Value.ref _) _ (backTo _ (starEach (_ :: _) _)) []) _ _ _); k_dflt (first | (refine' callWith_K ?k1_12 ?k2_12 ?_; (case k1_12 => k_asm); (case k2_12 => k_is); k_whole) | (refine' callWith_M ?k1_12 ?k2_12 ?k3_12 ?k4_12 ?_; (case k1_12 => k_asm); (case k2_12 => k_asm); (case k3_12 => k_mem); (case k4_12 => k_is); k_whole)))
  k_with "MINE room" => (first | assumption | exact ArOk.down (by assumption) (by walk_at "MINE om"))
  k_with "call ref" => (k_here; k_dflt (refine' clk_use ?C_14 ?F_14 ?N_14 ?d_14 ?_; (case C_14 => k_asm); (case F_14 => k_asm); (case N_14 => k_asm); (case d_14 => walk_at "MINE room"); k_whole; intro h'K tk'K t'K F'K N'K; (try k_sweep)))
  k_with "call ref" => (k_here; (with_reducible show wpAny _ _ (call (Value.ref 616) _) _ _ _); k_dflt (refine' get_use ?C_15 ?ok_15 ?F_15 ?N_15 ?ms_15 ?me_15 ?mv_15 ?U1_15 ?U2_15 ?U3_15 ?X_15 ?T_15 ?I_15 ?hS_15 ?hE_15 ?hc_15 ?hd_15 ?_; (case C_15 => k_asm); (case ok_15 => k_asm); (case F_15 => k_asm); (case N_15 => k_asm); (case ms_15 => k_mem); (case me_15 => k_mem); (case mv_15 => k_mem); (case U1_15 => k_updF); (case U2_15 => (intro xK; k_updF)); (case U3_15 => (intro xK yK; k_updF)); (case X_15 => k_asm); (case T_15 => k_asm); (case I_15 => k_asm); (case hS_15 => k_asm); (case hE_15 => k_asm); (case hc_15 => walk_at "MINE om"); (case hd_15 => walk_at "MINE room"); k_whole; intro h'K tk'K t'K os'K oe'K F'K N'K hS'K hE'K; (try dsimp only at N'K); (try k_sweep)))
  k_with "MINE enter" => (
  (case ho => k_is); (case hcd => k_is); (case hroom => walk_at "MINE om"); (case hbind => first | exact BindsTo.of_eq rfl | exact binds_K (by k_in) rfl (by k_is) rfl rfl rfl);
  (case c5 => decide); (case hloc => exact locs rfl); (case c2 => exact rfl); (case c3 => exact rfl); (case c4 => exact rfl))
  k_with "MINE exit" => ((case F => k_asm); (case N => k_asm); (case a => k_mem); (case b => k_mem); (case c => k_mem))
  k_with "formatField int" => (k_here; (with_reducible show wpAny _ _ (formatField (Value.int _ _) _) _ _ _); k_dflt (refine' fmtI ?a_18 ?b_18 ?_; (case a_18 => walk_at "MINE om"); (case b_18 => walk_at "MINE om"); k_whole; intro hy'K t'K))
  k_with "And" => ((with_reducible show PySem.Str.length (_ ++ _) ≤ sizeLine ∧ wpAny _ _ (joinParts _ _) _ _ _); refine ⟨?a_19, ?_⟩; (case a_19 => (simp only [Str.length_append, Str.empty_append, slk_one, sizeLine_eq]; walk_at "MINE om")))
  k_with "getMethod ref" => (k_here; k_dflt (refine' kmuCmG ?k1_20 ?k2_20 ?k3_20 ?i1_20 ?i2_20 ?k5_20 ?k6_20 ?k7_20 ?k8_20 ?k9_20 ?k10_20 ?k11_20 ?k12_20 ?k13_20 ?_; (case k1_20 => k_asm); (case k2_20 => k_asm); (case k3_20 => k_asm); (case i1_20 => k_asm); (case i2_20 => k_asm); (case k5_20 => k_is); (case k6_20 => k_is); (case k7_20 => k_is); (case k8_20 => k_is); (case k9_20 => k_is); (case k10_20 => k_is); (case k11_20 => decide +kernel); (case k12_20 => k_get); (case k13_20 => k_is); k_whole; intro q'K h'K F'K N'K l1K; (try k_lt l1K); (try k_sweep)))
  k_with "call ref" => (k_here; k_dflt (refine' keys_use ?C_21 ?F_21 ?N_21 ?q_21 ?X_21 ?T_21 ?h0_21 ?h1_21 ?h2_21 ?hk_21 ?hd_21 ?_; (case C_21 => k_asm); (case F_21 => k_asm); (case N_21 => k_asm); (case q_21 => k_mem); (case X_21 => k_asm); (case T_21 => k_asm); (case h0_21 => walk_at "MINE om"); (case h1_21 => walk_at "MINE om"); (case h2_21 => walk_at "MINE om"); (case hk_21 => assumption); (case hd_21 => walk_at "MINE room"); k_whole; intro h'K tk'K tp'K u1K u2K F'K N'K l1K; (try simp only [List.forall_mem_cons, List.not_mem_nil, false_implies, implies_true, and_true] at l1K); (try k_sweep)))
  k_with "call ref" => (k_here; (with_reducible show wpAny _ _ (call (Value.ref 660) _) _ _ _); k_dflt (refine' info_use ?C_22 ?ok_22 ?F_22 ?N_22 ?ms_22 ?me_22 ?mv_22 ?U1_22 ?U2_22 ?U3_22 ?X_22 ?T_22 ?I_22 ?hV_22 ?hS_22 ?hE_22 ?hc_22 ?h0_22 ?hd_22 ?_; (case C_22 => k_asm); (case ok_22 => k_asm); (case F_22 => k_asm); (case N_22 => k_asm); (case ms_22 => k_mem); (case me_22 => k_mem); (case mv_22 => k_mem); (case U1_22 => k_updF); (case U2_22 => (intro xK; k_updF)); (case U3_22 => (intro xK yK; k_updF)); (case X_22 => k_asm); (case T_22 => k_asm); (case I_22 => k_asm); (case hV_22 => k_asm); (case hS_22 => k_asm); (case hE_22 => k_asm); (case hc_22 => walk_at "MINE om"); (case h0_22 => walk_at "MINE om"); (case hd_22 => walk_at "MINE room"); k_whole; intro h'K tk'K os'K oe'K tp'K u1K u2K u3K u4K F'K N'K l1K hS'K hE'K; (try simp only [List.forall_mem_cons, List.not_mem_nil, false_implies, implies_true, and_true] at l1K); (try dsimp only at N'K); (try k_sweep)))
  k_with "call ref" => (k_here; (with_reducible show wpAny _ _ (call (Value.ref 601) _ _) _ _ _); k_dflt (refine' incr_use ?C_23 ?ok_23 ?F_23 ?N_23 ?ms_23 ?me_23 ?mv_23 ?U1_23 ?U2_23 ?U3_23 ?X_23 ?T_23 ?I_23 ?hS_23 ?hE_23 ?hc_23 ?hd_23 ?_; (case C_23 => k_asm); (case ok_23 => k_asm); (case F_23 => k_asm); (case N_23 => k_asm); (case ms_23 => k_mem); (case me_23 => k_mem); (case mv_23 => k_mem); (case U1_23 => k_updF); (case U2_23 => (intro xK; k_updF)); (case U3_23 => (intro xK yK; k_updF)); (case X_23 => k_asm); (case T_23 => k_asm); (case I_23 => k_asm); (case hS_23 => k_asm); (case hE_23 => k_asm); (case hc_23 => walk_at "MINE om"); (case hd_23 => walk_at "MINE room"); k_whole; intro h'K tk'K t'K os'K oe'K F'K N'K hS'K hE'K; (try dsimp only at N'K); (try k_sweep)))
  k_with "call ref" => (k_here; (with_reducible show wpAny _ _ (call (Value.ref 623) _) _ _ _); k_dflt (refine' clear_use ?C_24 ?ok_24 ?F_24 ?N_24 ?ms_24 ?me_24 ?mv_24 ?U1_24 ?U2_24 ?U3_24 ?X_24 ?T_24 ?I_24 ?hS_24 ?hE_24 ?hV_24 ?hc_24 ?hd_24 ?_; (case C_24 => k_asm); (case ok_24 => k_asm); (case F_24 => k_asm); (case N_24 => k_asm); (case ms_24 => k_mem); (case me_24 => k_mem); (case mv_24 => k_mem); (case U1_24 => k_updF); (case U2_24 => (intro xK; k_updF)); (case U3_24 => (intro xK yK; k_updF)); (case X_24 => k_asm); (case T_24 => k_asm); (case I_24 => k_asm); (case hS_24 => k_asm); (case hE_24 => k_asm); (case hV_24 => k_asm); (case hc_24 => walk_at "MINE om"); (case hd_24 => walk_at "MINE room"); k_whole; intro h'K tk'K os'K oe'K ov'K F'K N'K hS'K hE'K hV'K; (try dsimp only at N'K); (try k_sweep)))
  k_with "assign Tuple" => (k_here; (with_reducible show wpAny _ _ (assign (Expr.Tuple _ _ _) _ (Value.ref _)) _ _ _); k_dflt (refine' unpackN_ ?k1_25 ?k2_25 ?k3_25 ?k4_25 ?k5_25 ?k6_25 ?_; (case k1_25 => k_asm); (case k2_25 => k_asm); (case k3_25 => kun_tup); (case k4_25 => assumption); (case k5_25 => exact rfl); (case k6_25 => exact rfl); k_whole); intro h'K F'K N'K; (try k_sweep))
  k_with "binaryOp Mult int int" => (k_here; (first | refine PySem.mul_int ?_ (hm := IntMulOk.of_left (intBits_le_64 (by walk_at "MINE om") (by walk_at "MINE om"))) | refine PySem.mul_int ?_ (hm := IntMulOk.of_right (intBits_le_64 (by walk_at "MINE om") (by walk_at "MINE om")))))
  k_with "MINE line" => first | (simp only [sizeLine_eq, List.length_replicate]; walk_at "MINE om") | exact Nat.le_trans (stored_length_le _ _ _) (by rw [sizeLine_eq]; walk_at "MINE om")
  k_with "getMethod ref" => (k_here; k_dflt (refine' dMeth ?N_28 ?m_28 ?d_28 ?i_28 ?_; (case N_28 => k_asm); (case m_28 => k_mem); (case d_28 => k_asm); (case i_28 => exact rfl); k_whole))
  k_with "call builtin:dict.setdefault" => (k_here; k_dflt (refine' dSdThere ?N_29 ?m_29 ?d_29 ?lo_29 ?l_29 ?z_29 ?_; (case N_29 => k_asm); (case m_29 => k_mem); (case d_29 => k_asm); (case lo_29 => k_asm); (case l_29 => assumption); (case z_29 => walk_at "MINE line"); k_whole))
  k_with "call builtin:dict.setdefault" => (k_here; k_dflt (refine' dSdNew ?F_30 ?N_30 ?U_30 ?d_30 ?lo_30 ?l_30 ?z_30 ?_; (case F_30 => k_asm); (case N_30 => k_asm); (case U_30 => k_updF); (case d_30 => k_asm); (case lo_30 => k_asm); (case l_30 => assumption); (case z_30 => walk_at "MINE line"); k_whole; intro h'K o'K F'K N'K hd'K hv'K; (try dsimp only at N'K); (try k_sweep)))
  k_with "subscriptTail" => (k_here; (with_reducible show wpAny _ _ (subscriptTail _ _ (Value.ref _) (Value.str _ _)) _ _ _); k_dflt (refine' dTail ?N_31 ?m_31 ?d_31 ?_; (case N_31 => k_asm); (case m_31 => k_mem); (case d_31 => k_asm); k_whole))
  k_with "getItem ref str" => (k_here; k_dflt (refine' dItem ?N_32 ?m_32 ?d_32 ?v_32 ?_; (case N_32 => k_asm); (case m_32 => k_mem); (case d_32 => k_asm); (case v_32 => assumption); k_whole))
  k_with "setItem ref str" => (k_here; k_dflt (refine' dSet ?F_33 ?N_33 ?U_33 ?d_33 ?_ ?z_33; (case F_33 => k_asm); (case N_33 => k_asm); (case U_33 => k_updF); (case d_33 => k_asm); (case z_33 => walk_at "MINE line"); k_whole; intro h'K o'K F'K N'K hd'K; (try dsimp only at N'K); (try k_sweep)))
  k_with "MINE get" => first | (refine' Fr.keep ?fr_34 _ _ ?gt_34; (case fr_34 => k_asm); (case gt_34 => assumption)) | (refine' Fr.keep ?fr_34 _ _ (Below.stays ?kb_34 _ _ ?bt_34); (case fr_34 => k_asm); (case kb_34 => assumption); (case bt_34 => assumption)) | (refine' news_at ?nn_34 ?mm_34; (case nn_34 => k_asm); (case mm_34 => k_mem))
  k_with "subscriptTail" => (k_here; (with_reducible show wpAny _ _ (subscriptTail _ _ (Value.ref _) (Value.int _ _)) _ _ _); k_dflt (refine' lst_in ?l_35 ?a_35 ?b_35 ?v_35 ?_; (case l_35 => walk_at "MINE get"); (case a_35 => walk_at "MINE om"); (case b_35 => walk_at "MINE om"); (case v_35 => assumption); k_whole))
  k_with "subscriptTail" => (k_here; (with_reducible show wpAny _ _ (subscriptTail _ _ (Value.ref _) (Value.int _ _)) _ _ _); k_dflt (refine' lst_out ?hA_36 ?l_36 ?a_36 ?b_36 ?v_36 ?_; (case hA_36 => assumption); (case l_36 => walk_at "MINE get"); (case a_36 => walk_at "MINE om"); (case b_36 => walk_at "MINE om"); (case v_36 => first | assumption | exact rfl); k_whole; intro h'K tk'K e'K hx'K))
  k_with "subscriptTail" => (k_here; (with_reducible show wpAny _ _ (subscriptTail _ _ (Value.ref _) (Value.int _ _)) _ _ _); k_dflt (refine' lst_out0 ?hA_37 ?N_37 ?m_37 ?a_37 ?b_37 ?_; (case hA_37 => assumption); (case N_37 => k_asm); (case m_37 => k_mem); (case a_37 => walk_at "MINE om"); (case b_37 => walk_at "MINE om"); k_whole; intro h'K tk'K e'K hx'K))
  k_with "noteFrame ref" => (k_here; refine' caught_acq ?K_38 ?hx_38 ?F_38 ?N_38 ?XB_38 ?TB_38 ?IB_38 ?fc_38 ?ex_38 PyProof.Rows.Boot.«IndexError» ?hn_38 PySem.F.isExc_IndexError PySem.F.notTuple_IndexError ?hs_38 ?_; (case K_38 => assumption); (case hx_38 => assumption); (case F_38 => k_asm); (case N_38 => k_asm); (case XB_38 => assumption); (case TB_38 => assumption); (case IB_38 => assumption); (case fc_38 => assumption); (case ex_38 => k_is); (case hn_38 => decide); (case hs_38 => exact rfl); intro h'K g'K T'K F'K N'K K'K X'K P'K I'K i1'K i2'K fc'K; (try k_sweep))
  k_with "call ref" => (k_here; (with_reducible show wpAny _ _ (call (Value.ref 568) _) _ _ _); k_dflt (refine' (by assumption : EntryC _ _ _) _ _ _ _ _ _ _ _ _ _ _ _ _ _ _ _ ?F_39 ?N_39 ?X_39 ?T_39 ?n0_39 ?n1_39 ?e0_39 ?e1_39 ?d_39 ?_; (case F_39 => k_asm); (case N_39 => k_asm); (case X_39 => k_asm); (case T_39 => k_asm); (case n0_39 => walk_at "MINE om"); (case n1_39 => walk_at "MINE om"); (case e0_39 => walk_at "MINE om"); (case e1_39 => walk_at "MINE om"); (case d_39 => walk_at "MINE room"); k_whole; intro h'K tk'K x'K dx'K u1K u2K u3K u4K F'K N'K l1K l2K l3K; (try simp only [List.forall_mem_cons, List.not_mem_nil, false_implies, implies_true, and_true] at l3K); (try simp only [List.forall_mem_cons, List.not_mem_nil, false_implies, implies_true, and_true] at l1K); (try k_sweep)))
  k_with "binaryOp Mult ref int" => (k_here; (with_reducible show wpAny _ _ (binaryOp Operator.Mult (Value.ref _) (Value.int _ _)) _ _ _); k_dflt (refine' lst_rep ?F_40 ?N_40 ?m_40 ?a_40 ?b_40 ?_; (case F_40 => k_asm); (case N_40 => k_asm); (case m_40 => k_mem); (case a_40 => walk_at "MINE om"); (case b_40 => walk_at "MINE om"); k_whole; intro D'K h'K F'K N'K l1K; (try k_lt l1K); (try k_sweep)))
  k_with "binaryOp Add ref ref" => (k_here; (with_reducible show wpAny _ _ (binaryOp Operator.Add (Value.ref _) (Value.ref _)) _ _ _); k_dflt (refine' lst_cat ?F_41 ?N_41 ?a_41 ?b_41 ?z_41 ?_; (case F_41 => k_asm); (case N_41 => k_asm); (case a_41 => walk_at "MINE get"); (case b_41 => walk_at "MINE get"); (case z_41 => first | walk_at "MINE line" | (show (List.replicate _ _).length + 0 ≤ _; walk_at "MINE line")); k_whole; intro D'K h'K F'K N'K l1K; (try k_lt l1K); (try k_sweep)))
  k_with "binaryOp Add ref ref" => (k_here; (with_reducible show wpAny _ _ (binaryOp Operator.Add (Value.ref _) (Value.ref _)) _ _ _); k_dflt (refine' lst_cat0 ?F_42 ?N_42 ?a_42 ?b_42 ?z_42 ?_; (case F_42 => k_asm); (case N_42 => k_asm); (case a_42 => walk_at "MINE get"); (case b_42 => k_mem); (case z_42 => walk_at "MINE line"); k_whole; intro D'K h'K F'K N'K l1K; (try k_lt l1K); (try k_sweep)))
  k_with "eval Name" => (k_here; k_dflt (refine' nameX_L ?F_zn ?v_zn ?_ ?a_zn ?b_zn; (case F_zn => k_asm); (case a_zn => rfl); (case b_zn => rfl); (case v_zn => rfl); k_whole))
  trivial

theorem c_acq (w : World) (hEnt : EntryC (Mine.kmake.heap_1 w.params) PySem.Challenge.pw_jo0040_02 w) : AcqC (Mine.kmake.heap_1 w.params) PySem.Challenge.pw_jo0040_02 w := by
  intro p loose mg mb S now os oe ov A s base outer key limit expiry amount t1 t2 t3 t4 fv lg c Q E hP hLow hSc hEc hV hlg hc ham ham' hli h0 he30 hn30 hlen hd ret
  have hfill : (PySem.Challenge.rw_jo0040_02 = PySem.Challenge.rw_jo0040_02) ∧ (Mine.kmake.heap_1 = Mine.kmake.heap_1) := by k_fill; exact ⟨rfl, rfl⟩
  clear hfill
  obtain ⟨ok, X, T, I, hs, he, hv⟩ := hP
  obtain ⟨n1, n2, n3, l1, l2, l3, b1⟩ := id ok
  have Xs : (Mine.kmake.heap_1 w.params).In s.heap := X.keeps fun b o e => of_hideAll _ e
  have hroom' := hd.d
  have hh := hd.h
  have hu := hd.u
  refine wpAny_call ?_
  obtain ⟨KB, XB, TB, IB⟩ := hLow
  obtain ⟨kvs, hdv, hl0, hr⟩ := hV
  refine' enter (Wl := S.W) (news := [(S.ds, os), (S.de, oe), (S.dv, ov)]) (binds := [("self", .ref S.st), ("key", .str key t1), ("limit", .int limit t2), ("expiry", .int expiry t3), ("amount", .int amount t4)]) X T (own3 hs he hv) ?ho ?hcd ?hroom ?hbind ?hloc ?_ ?c2 ?c3 ?c4 ?c5
  walk_at "MINE enter"
  intro L' h₁ F N lt
  (try dsimp only [List.reverse, List.reverseAux] at F)
  clear hs he hv lt Xs
  generalize hg : hideAll s.heap S.W = g at *
  have i1 := I.i1
  have i2 := I.i2
  obtain ⟨fcc, fcd, fcf, fcs, hfc⟩ := I.fn
  have hb := I.bnd
  (try k_fold)
  have hfcB : base.get? S.fc = some ⟨fcc, fcd, .func fcf, fcs⟩ := by
    obtain ⟨c', dd', fd', sl', e⟩ := IB.fn
    rw [KB.stays _ _ e] at hfc
    rw [e]; exact hfc
  cases hk : fv key with
  | none =>
    have hvk := hr.none hk
    have hblk : sAcqAt ((fv key).getD []) now limit expiry amount = false := by rw [hk]; rfl
    k_steps
    · have er : sAcq fv now key limit expiry amount = (fv, false) := by
        unfold sAcq; rw [if_pos (by walk_at "MINE om")]
      rw [er] at ret
      (refine' ret _ _ g ov [] KtsTurn.refl (Fr.keep ?F) ?a ?b ?c ?d ?e; (case F => k_asm); (case a => exact news_at (by k_asm) (by k_mem)); (case b => exact news_at (by k_asm) (by k_mem)); (case c => exact news_at (by k_asm) (by k_mem)); (case d => exact (fun _ h => nomatch h)); (case e => exact ⟨kvs, hdv, Nat.le_succ_of_le hl0, hr⟩))
    · have er : sAcq fv now key limit expiry amount = (upd fv key (List.replicate amount.toNat (now, now + expiry) ++ []), true) := by
        unfold sAcq; rw [if_neg (by walk_at "MINE om"), if_neg (by rw [hblk]; decide), hk, Option.getD_none]
      rw [er] at ret
      (refine' acq_end (prog := PySem.Challenge.pw_jo0040_02) (fs := outer.filterMap (·.frame)) (lg := lg) (c' := c + 1) hg ?T ?F ?N ?ms ?me ?mv ?mD ?mx ?md ?nD ?nx ?nd ?he ?hd ?hl hr ?hst ?k; (case F => k_asm); (case N => k_asm); (case T => first | assumption | exact KtsTurn.refl); (case ms => k_mem); (case me => k_mem); (case mv => k_mem); (case hd => assumption); (case mD => (rw [List.append_nil]; k_mem)); (case mx => k_mem); (case md => k_mem); (case nD => walk_at "MINE om"); (case nx => walk_at "MINE om"); (case nd => walk_at "MINE om"); (case he => exact .nil); (case hl => exact Nat.le_trans stored2_len (by walk_at "MINE om")); (case hst => exact .inr ⟨_, rfl⟩); (case k => exact fun lgN z1 z2 z3 z4 z5 z6 z7 => ret _ _ _ _ lgN z1 z2 z3 z4 z5 z6 z7))
  | some es =>
    obtain ⟨v0, hvk, l0, vs, n0, rfl, hmem, hents⟩ := hr.some hk
    have hl0b : base.get? l0 = some (lstO vs n0) := hlg _ hmem
    have hl0g : g.get? l0 = some (lstO vs n0) := KB.stays _ _ (hlg _ hmem)
    have hles := hlen es hk
    have hlvs := hents.len
    cases hi : vs[(limit - amount).toNat]? with
    | none =>
      have hblk : sAcqAt ((fv key).getD []) now limit expiry amount = false := by
        have : es[(limit - amount).toNat]? = none := by rw [List.getElem?_eq_none_iff] at hi ⊢; walk_at "MINE om"
        rw [hk]; simp only [Option.getD_some]; unfold sAcqAt; rw [this]
      k_steps
      · have er : sAcq fv now key limit expiry amount = (fv, false) := by
          unfold sAcq; rw [if_pos (by walk_at "MINE om")]
        rw [er] at ret
        (refine' ret _ _ g ov [] KtsTurn.refl (Fr.keep ?F) ?a ?b ?c ?d ?e; (case F => k_asm); (case a => exact news_at (by k_asm) (by k_mem)); (case b => exact news_at (by k_asm) (by k_mem)); (case c => exact news_at (by k_asm) (by k_mem)); (case d => exact (fun _ h => nomatch h)); (case e => exact ⟨kvs, hdv, Nat.le_succ_of_le hl0, hr⟩))
      · have er : sAcq fv now key limit expiry amount = (upd fv key (List.replicate amount.toNat (now, now + expiry) ++ es), true) := by
          unfold sAcq; rw [if_neg (by walk_at "MINE om"), if_neg (by rw [hblk]; decide), hk, Option.getD_some]
        rw [er] at ret
        (refine' acq_end (prog := PySem.Challenge.pw_jo0040_02) (fs := outer.filterMap (·.frame)) (lg := lg) (c' := c + 1) hg ?T ?F ?N ?ms ?me ?mv ?mD ?mx ?md ?nD ?nx ?nd ?he ?hd ?hl hr ?hst ?k; (case F => k_asm); (case N => k_asm); (case T => first | assumption | exact KtsTurn.refl); (case ms => k_mem); (case me => k_mem); (case mv => k_mem); (case hd => assumption); (case mD => k_mem); (case mx => k_mem); (case md => k_mem); (case nD => walk_at "MINE om"); (case nx => walk_at "MINE om"); (case nd => walk_at "MINE om"); (case he => exact hents); (case hl => exact Nat.le_trans (stored_length_le _ _ _) (by walk_at "MINE om")); (case hst => exact .inl rfl); (case k => exact fun lgN z1 z2 z3 z4 z5 z6 z7 => ret _ _ _ _ lgN z1 z2 z3 z4 z5 z6 z7))
    | some v1 =>
      obtain ⟨q1, hq1, ⟨e1, d1, u1, u2, u3, u4, nn1, rfl, hm1, hm2⟩⟩ := hents.at hi
      have hg1 : g.get? e1 = some (instObj EntC d1) := KB.stays _ _ (hlg _ hm1)
      have hg2 : g.get? d1 = some (dictOf (entryDict w u1 u2 u3 u4 q1.1 q1.2) nn1) := KB.stays _ _ (hlg _ hm2)
      unfold EntC at hg1
      have hblk : sAcqAt ((fv key).getD []) now limit expiry amount = decide (now - expiry ≤ q1.1) := by
        rw [hk]; simp only [Option.getD_some]; unfold sAcqAt; rw [hq1]
      k_steps
      · have er : sAcq fv now key limit expiry amount = (fv, false) := by
          unfold sAcq; rw [if_pos (by walk_at "MINE om")]
        rw [er] at ret
        (refine' ret _ _ g ov [] KtsTurn.refl (Fr.keep ?F) ?a ?b ?c ?d ?e; (case F => k_asm); (case a => exact news_at (by k_asm) (by k_mem)); (case b => exact news_at (by k_asm) (by k_mem)); (case c => exact news_at (by k_asm) (by k_mem)); (case d => exact (fun _ h => nomatch h)); (case e => exact ⟨kvs, hdv, Nat.le_succ_of_le hl0, hr⟩))
      · have er : sAcq fv now key limit expiry amount = (fv, false) := by
          unfold sAcq; rw [if_neg (by walk_at "MINE om"), if_pos (by rw [hblk]; exact decide_eq_true (by walk_at "MINE om")), hk, Option.getD_some, upd_same hk]
        rw [er] at ret
        (refine' ret _ _ g ov [] KtsTurn.refl (Fr.keep ?F) ?a ?b ?c ?d ?e; (case F => k_asm); (case a => exact news_at (by k_asm) (by k_mem)); (case b => exact news_at (by k_asm) (by k_mem)); (case c => exact news_at (by k_asm) (by k_mem)); (case d => exact (fun _ h => nomatch h)); (case e => exact ⟨kvs, hdv, Nat.le_succ_of_le hl0, hr⟩))
      · have er : sAcq fv now key limit expiry amount = (upd fv key (List.replicate amount.toNat (now, now + expiry) ++ es), true) := by
          unfold sAcq; rw [if_neg (by walk_at "MINE om"), if_neg (by rw [hblk]; simp only [decide_eq_true_eq]; walk_at "MINE om"), hk, Option.getD_some]
        rw [er] at ret
        (refine' acq_end (prog := PySem.Challenge.pw_jo0040_02) (fs := outer.filterMap (·.frame)) (lg := lg) (c' := c + 1) hg ?T ?F ?N ?ms ?me ?mv ?mD ?mx ?md ?nD ?nx ?nd ?he ?hd ?hl hr ?hst ?k; (case F => k_asm); (case N => k_asm); (case T => first | assumption | exact KtsTurn.refl); (case ms => k_mem); (case me => k_mem); (case mv => k_mem); (case hd => assumption); (case mD => k_mem); (case mx => k_mem); (case md => k_mem); (case nD => walk_at "MINE om"); (case nx => walk_at "MINE om"); (case nd => walk_at "MINE om"); (case he => exact hents); (case hl => exact Nat.le_trans (stored_length_le _ _ _) (by walk_at "MINE om")); (case hst => exact .inl rfl); (case k => exact fun lgN z1 z2 z3 z4 z5 z6 z7 => ret _ _ _ _ lgN z1 z2 z3 z4 z5 z6 z7))

theorem reg_CBis : True := by
  k_with_none
  k_with "MINE pj" => (first | with_reducible assumption | exact an0 (by with_reducible assumption) | exact an1 (by with_reducible assumption) | exact an2 (by with_reducible assumption) | exact an3 (by with_reducible assumption) | exact an4 (by with_reducible assumption) | exact an5 (by with_reducible assumption) | exact an6 (by with_reducible assumption) | exact an7 (by with_reducible assumption) | exact an8 (by with_reducible assumption) | exact an9 (by with_reducible assumption) | exact bn1 (by with_reducible assumption) | exact bn2 (by with_reducible assumption) | exact bn3 (by with_reducible assumption) | exact bn4 (by with_reducible assumption) | exact bn5 (by with_reducible assumption) | exact bn6 (by with_reducible assumption) | exact bn7 (by with_reducible assumption) | exact bn8 (by with_reducible assumption))
  k_with "MINE lt" => (first | walk_at "MINE pj" | (with_reducible refine Nat.lt_trans ?_ (by with_reducible assumption); walk_at "MINE lt"))
  k_with "MINE ne" => (with_reducible refine neN ?_; (try dsimp only); first | with_reducible assumption | (refine Ne.symm ?_; with_reducible assumption) | (refine Nat.ne_of_lt ?_; with_reducible assumption) | (refine Nat.ne_of_gt ?_; with_reducible assumption) | (simp only [*, ne_eq, not_false_eq_true]; done) | (refine Ne.symm ?_; (simp only [*, ne_eq, not_false_eq_true]; done)) | (refine Nat.ne_of_lt ?_; (simp only [*]; done)) | (refine Nat.ne_of_gt ?_; (simp only [*]; done)) | assumption | decide | (refine Nat.ne_of_gt ?_; walk_at "MINE lt") | (refine Nat.ne_of_lt ?_; walk_at "MINE lt") | lia | omega)
  k_with "MINE nes" => (repeat' (first | (refine And.intro ?_ ?_) | (with_reducible refine neN ?_; walk_at "MINE ne")))
  k_with "MINE om" => (first | with_reducible assumption | exact Nat.le_of_ble_eq_true rfl | exact an0 (by with_reducible assumption) | exact bn1 (by with_reducible assumption) | exact an1 (by with_reducible assumption) | exact Nat.lt_of_le_of_lt (Nat.le_add_right _ _) (by with_reducible assumption) | exact Int.lt_trans (by with_reducible assumption) (by decide) | exact Int.lt_trans (bn1 (by with_reducible assumption)) (by decide) | exact Int.lt_of_lt_of_le (by decide) (by with_reducible assumption) | exact Int.lt_of_lt_of_le (by decide) (an0 (by with_reducible assumption)) | exact Nat.le_trans (by with_reducible assumption) (by decide) | exact Int.le_of_lt (by with_reducible assumption) | exact Int.le_trans (by with_reducible assumption) (by decide) | exact Int.lt_of_le_of_lt (by with_reducible assumption) (by decide) | decide | (walk_at "MINE nes"; done) | lia | omega)
  k_with "getMethod ref" => (k_here; k_dflt (refine' dMethI ?N_0 ?m_0 ?d_0 ?i_0 ?_; (case N_0 => k_asm); (case m_0 => k_mem); (case d_0 => k_asm); (case i_0 => exact rfl); k_whole))
  k_with "call builtin:dict.get" => (k_here; k_dflt (refine' dGetI ?N_1 ?m_1 ?d_1 ?lo_1 ?_; (case N_1 => k_asm); (case m_1 => k_mem); (case d_1 => k_asm); (case lo_1 => k_asm); k_whole; intro t'K))
  k_with "call builtin:dict.pop" => (k_here; k_dflt (refine' dPopI ?F_2 ?N_2 ?U_2 ?d_2 ?lo_2 ?z_2 ?_; (case F_2 => k_asm); (case N_2 => k_asm); (case U_2 => k_updF); (case d_2 => k_asm); (case lo_2 => k_asm); (case z_2 => walk_at "MINE om"); k_whole; intro h'K o'K v'K F'K N'K hd'K; (try dsimp only at N'K); (try k_sweep)))
  k_with "getMethod ref" => (k_here; k_dflt (refine' dMethV ?N_3 ?m_3 ?d_3 ?i_3 ?_; (case N_3 => k_asm); (case m_3 => k_mem); (case d_3 => k_asm); (case i_3 => exact rfl); k_whole))
  k_with "call builtin:dict.pop" => (k_here; k_dflt (refine' dPopV ?F_4 ?N_4 ?U_4 ?d_4 ?lo_4 ?z_4 ?_; (case F_4 => k_asm); (case N_4 => k_asm); (case U_4 => k_updF); (case d_4 => k_asm); (case lo_4 => k_asm); (case z_4 => walk_at "MINE om"); k_whole; intro h'K o'K v'K F'K N'K hd'K; (try dsimp only at N'K); (try k_sweep)))
  k_with "setItem ref str" => (k_here; k_dflt (refine' dSetI ?F_5 ?N_5 ?U_5 ?d_5 ?z_5 ?_; (case F_5 => k_asm); (case N_5 => k_asm); (case U_5 => k_updF); (case d_5 => k_asm); (case z_5 => walk_at "MINE om"); k_whole; intro h'K o'K F'K N'K hd'K; (try dsimp only at N'K); (try k_sweep)))
  k_with "subscriptTail" => (k_here; (with_reducible show wpAny _ _ (subscriptTail _ _ (Value.ref _) (Value.str _ _)) _ _ _); k_dflt (refine' dTailI ?N_6 ?m_6 ?d_6 ?_; (case N_6 => k_asm); (case m_6 => k_mem); (case d_6 => k_asm); k_whole))
  k_with "getItem ref str" => (k_here; k_dflt (refine' dItemI ?N_7 ?m_7 ?d_7 ?v_7 ?_; (case N_7 => k_asm); (case m_7 => k_mem); (case d_7 => k_asm); (case v_7 => first | k_asm | exact if_pos rfl); k_whole; intro t'K))
  k_with "getAttr ref" => (k_here; k_dflt (refine' getOwnG ?k1_8 ?k2_8 ?i1_8 ?i2_8 ?k4_8 ?k5_8 ?k6_8 ?k7_8 ?k8_8 ?k9_8 ?_; (case k1_8 => k_asm); (case k2_8 => k_asm); (case i1_8 => k_asm); (case i2_8 => k_asm); (case k4_8 => k_is); (case k5_8 => k_is); (case k6_8 => k_is); (case k7_8 => k_is); (case k8_8 => k_get); (case k9_8 => k_handed); k_whole))
  k_with "getMethod ref" => (k_here; k_dflt (refine' methG ?k1_9 ?k2_9 ?i1_9 ?i2_9 ?k4_9 ?k5_9 ?k6_9 ?k7_9 ?_; (case k1_9 => k_asm); (case k2_9 => k_asm); (case i1_9 => k_asm); (case i2_9 => k_asm); (case k4_9 => k_is); (case k5_9 => k_is); (case k6_9 => k_is); (case k7_9 => k_get); k_whole))
  k_with "getMethod ref" => (k_here; k_dflt (refine' kmuOwnG ?k1_10 ?k2_10 ?i1_10 ?i2_10 ?k4_10 ?k5_10 ?_; (case k1_10 => k_asm); (case k2_10 => k_asm); (case i1_10 => k_asm); (case i2_10 => k_asm); (case k4_10 => k_is); (case k5_10 => k_is); k_whole))
  k_with "callWith ref" => (k_here; (with_reducible show wpAny _ _ (callWith _ (Value.ref _) [] (backTo _ (starEach [] _)) []) _ _ _); k_dflt (refine' callFn0 ?k1_11 ?k2_11 ?_; (case k1_11 => k_asm); (case k2_11 => k_asm); k_whole))
  k_with "callWith ref" => (k_here; (with_reducible show wpAny _ _ (callWith _ (Value.ref _) _ (backTo _ (starEach (_ :: _) _)) []) _ _ _); k_dflt (first | (refine' callWith_K ?k1_12 ?k2_12 ?_; (case k1_12 => k_asm); (case k2_12 => k_is); k_whole) | (refine' callWith_M ?k1_12 ?k2_12 ?k3_12 ?k4_12 ?_; (case k1_12 => k_asm); (case k2_12 => k_asm); (case k3_12 => k_mem); (case k4_12 => k_is); k_whole)))
  k_with "MINE room" => (first | assumption | exact ArOk.down (by assumption) (by walk_at "MINE om"))
  k_with "call ref" => (k_here; k_dflt (refine' clk_use ?C_14 ?F_14 ?N_14 ?d_14 ?_; (case C_14 => k_asm); (case F_14 => k_asm); (case N_14 => k_asm); (case d_14 => walk_at "MINE room"); k_whole; intro h'K tk'K t'K F'K N'K; (try k_sweep)))
  k_with "call ref" => (k_here; (with_reducible show wpAny _ _ (call (Value.ref 616) _) _ _ _); k_dflt (refine' get_use ?C_15 ?ok_15 ?F_15 ?N_15 ?ms_15 ?me_15 ?mv_15 ?U1_15 ?U2_15 ?U3_15 ?X_15 ?T_15 ?I_15 ?hS_15 ?hE_15 ?hc_15 ?hd_15 ?_; (case C_15 => k_asm); (case ok_15 => k_asm); (case F_15 => k_asm); (case N_15 => k_asm); (case ms_15 => k_mem); (case me_15 => k_mem); (case mv_15 => k_mem); (case U1_15 => k_updF); (case U2_15 => (intro xK; k_updF)); (case U3_15 => (intro xK yK; k_updF)); (case X_15 => k_asm); (case T_15 => k_asm); (case I_15 => k_asm); (case hS_15 => k_asm); (case hE_15 => k_asm); (case hc_15 => walk_at "MINE om"); (case hd_15 => walk_at "MINE room"); k_whole; intro h'K tk'K t'K os'K oe'K F'K N'K hS'K hE'K; (try dsimp only at N'K); (try k_sweep)))
  k_with "MINE enter" => (
  (case ho => k_is); (case hcd => k_is); (case hroom => walk_at "MINE om"); (case hbind => first | exact BindsTo.of_eq rfl | exact binds_K (by k_in) rfl (by k_is) rfl rfl rfl);
  (case c5 => decide); (case hloc => exact locs rfl); (case c2 => exact rfl); (case c3 => exact rfl); (case c4 => exact rfl))
  k_with "MINE exit" => ((case F => k_asm); (case N => k_asm); (case a => k_mem); (case b => k_mem); (case c => k_mem))
  k_with "formatField int" => (k_here; (with_reducible show wpAny _ _ (formatField (Value.int _ _) _) _ _ _); k_dflt (refine' fmtI ?a_18 ?b_18 ?_; (case a_18 => walk_at "MINE om"); (case b_18 => walk_at "MINE om"); k_whole; intro hy'K t'K))
  k_with "And" => ((with_reducible show PySem.Str.length (_ ++ _) ≤ sizeLine ∧ wpAny _ _ (joinParts _ _) _ _ _); refine ⟨?a_19, ?_⟩; (case a_19 => (simp only [Str.length_append, Str.empty_append, slk_one, sizeLine_eq]; walk_at "MINE om")))
  k_with "getMethod ref" => (k_here; k_dflt (refine' kmuCmG ?k1_20 ?k2_20 ?k3_20 ?i1_20 ?i2_20 ?k5_20 ?k6_20 ?k7_20 ?k8_20 ?k9_20 ?k10_20 ?k11_20 ?k12_20 ?k13_20 ?_; (case k1_20 => k_asm); (case k2_20 => k_asm); (case k3_20 => k_asm); (case i1_20 => k_asm); (case i2_20 => k_asm); (case k5_20 => k_is); (case k6_20 => k_is); (case k7_20 => k_is); (case k8_20 => k_is); (case k9_20 => k_is); (case k10_20 => k_is); (case k11_20 => decide +kernel); (case k12_20 => k_get); (case k13_20 => k_is); k_whole; intro q'K h'K F'K N'K l1K; (try k_lt l1K); (try k_sweep)))
  k_with "call ref" => (k_here; k_dflt (refine' keys_use ?C_21 ?F_21 ?N_21 ?q_21 ?X_21 ?T_21 ?h0_21 ?h1_21 ?h2_21 ?hk_21 ?hd_21 ?_; (case C_21 => k_asm); (case F_21 => k_asm); (case N_21 => k_asm); (case q_21 => k_mem); (case X_21 => k_asm); (case T_21 => k_asm); (case h0_21 => walk_at "MINE om"); (case h1_21 => walk_at "MINE om"); (case h2_21 => walk_at "MINE om"); (case hk_21 => assumption); (case hd_21 => walk_at "MINE room"); k_whole; intro h'K tk'K tp'K u1K u2K F'K N'K l1K; (try simp only [List.forall_mem_cons, List.not_mem_nil, false_implies, implies_true, and_true] at l1K); (try k_sweep)))
  k_with "call ref" => (k_here; (with_reducible show wpAny _ _ (call (Value.ref 660) _) _ _ _); k_dflt (refine' info_use ?C_22 ?ok_22 ?F_22 ?N_22 ?ms_22 ?me_22 ?mv_22 ?U1_22 ?U2_22 ?U3_22 ?X_22 ?T_22 ?I_22 ?hV_22 ?hS_22 ?hE_22 ?hc_22 ?h0_22 ?hd_22 ?_; (case C_22 => k_asm); (case ok_22 => k_asm); (case F_22 => k_asm); (case N_22 => k_asm); (case ms_22 => k_mem); (case me_22 => k_mem); (case mv_22 => k_mem); (case U1_22 => k_updF); (case U2_22 => (intro xK; k_updF)); (case U3_22 => (intro xK yK; k_updF)); (case X_22 => k_asm); (case T_22 => k_asm); (case I_22 => k_asm); (case hV_22 => k_asm); (case hS_22 => k_asm); (case hE_22 => k_asm); (case hc_22 => walk_at "MINE om"); (case h0_22 => walk_at "MINE om"); (case hd_22 => walk_at "MINE room"); k_whole; intro h'K tk'K os'K oe'K tp'K u1K u2K u3K u4K F'K N'K l1K hS'K hE'K; (try simp only [List.forall_mem_cons, List.not_mem_nil, false_implies, implies_true, and_true] at l1K); (try dsimp only at N'K); (try k_sweep)))
  k_with "call ref" => (k_here; (with_reducible show wpAny _ _ (call (Value.ref 601) _ _) _ _ _); k_dflt (refine' incr_use ?C_23 ?ok_23 ?F_23 ?N_23 ?ms_23 ?me_23 ?mv_23 ?U1_23 ?U2_23 ?U3_23 ?X_23 ?T_23 ?I_23 ?hS_23 ?hE_23 ?hc_23 ?hd_23 ?_; (case C_23 => k_asm); (case ok_23 => k_asm); (case F_23 => k_asm); (case N_23 => k_asm); (case ms_23 => k_mem); (case me_23 => k_mem); (case mv_23 => k_mem); (case U1_23 => k_updF); (case U2_23 => (intro xK; k_updF)); (case U3_23 => (intro xK yK; k_updF)); (case X_23 => k_asm); (case T_23 => k_asm); (case I_23 => k_asm); (case hS_23 => k_asm); (case hE_23 => k_asm); (case hc_23 => walk_at "MINE om"); (case hd_23 => walk_at "MINE room"); k_whole; intro h'K tk'K t'K os'K oe'K F'K N'K hS'K hE'K; (try dsimp only at N'K); (try k_sweep)))
  k_with "call ref" => (k_here; (with_reducible show wpAny _ _ (call (Value.ref 623) _) _ _ _); k_dflt (refine' clear_use ?C_24 ?ok_24 ?F_24 ?N_24 ?ms_24 ?me_24 ?mv_24 ?U1_24 ?U2_24 ?U3_24 ?X_24 ?T_24 ?I_24 ?hS_24 ?hE_24 ?hV_24 ?hc_24 ?hd_24 ?_; (case C_24 => k_asm); (case ok_24 => k_asm); (case F_24 => k_asm); (case N_24 => k_asm); (case ms_24 => k_mem); (case me_24 => k_mem); (case mv_24 => k_mem); (case U1_24 => k_updF); (case U2_24 => (intro xK; k_updF)); (case U3_24 => (intro xK yK; k_updF)); (case X_24 => k_asm); (case T_24 => k_asm); (case I_24 => k_asm); (case hS_24 => k_asm); (case hE_24 => k_asm); (case hV_24 => k_asm); (case hc_24 => walk_at "MINE om"); (case hd_24 => walk_at "MINE room"); k_whole; intro h'K tk'K os'K oe'K ov'K F'K N'K hS'K hE'K hV'K; (try dsimp only at N'K); (try k_sweep)))
  k_with "assign Tuple" => (k_here; (with_reducible show wpAny _ _ (assign (Expr.Tuple _ _ _) _ (Value.ref _)) _ _ _); k_dflt (refine' unpackN_ ?k1_25 ?k2_25 ?k3_25 ?k4_25 ?k5_25 ?k6_25 ?_; (case k1_25 => k_asm); (case k2_25 => k_asm); (case k3_25 => kun_tup); (case k4_25 => assumption); (case k5_25 => exact rfl); (case k6_25 => exact rfl); k_whole); intro h'K F'K N'K; (try k_sweep))
  k_with "binaryOp Mult int int" => (k_here; (first | refine PySem.mul_int ?_ (hm := IntMulOk.of_left (intBits_le_64 (by walk_at "MINE om") (by walk_at "MINE om"))) | refine PySem.mul_int ?_ (hm := IntMulOk.of_right (intBits_le_64 (by walk_at "MINE om") (by walk_at "MINE om")))))
  k_with "MINE line" => first | (simp only [sizeLine_eq, List.length_replicate]; walk_at "MINE om") | exact Nat.le_trans (stored_length_le _ _ _) (by rw [sizeLine_eq]; walk_at "MINE om")
  k_with "getMethod ref" => (k_here; k_dflt (refine' dMeth ?N_28 ?m_28 ?d_28 ?i_28 ?_; (case N_28 => k_asm); (case m_28 => k_mem); (case d_28 => k_asm); (case i_28 => exact rfl); k_whole))
  k_with "call builtin:dict.setdefault" => (k_here; k_dflt (refine' dSdThere ?N_29 ?m_29 ?d_29 ?lo_29 ?l_29 ?z_29 ?_; (case N_29 => k_asm); (case m_29 => k_mem); (case d_29 => k_asm); (case lo_29 => k_asm); (case l_29 => assumption); (case z_29 => walk_at "MINE line"); k_whole))
  k_with "call builtin:dict.setdefault" => (k_here; k_dflt (refine' dSdNew ?F_30 ?N_30 ?U_30 ?d_30 ?lo_30 ?l_30 ?z_30 ?_; (case F_30 => k_asm); (case N_30 => k_asm); (case U_30 => k_updF); (case d_30 => k_asm); (case lo_30 => k_asm); (case l_30 => assumption); (case z_30 => walk_at "MINE line"); k_whole; intro h'K o'K F'K N'K hd'K hv'K; (try dsimp only at N'K); (try k_sweep)))
  k_with "subscriptTail" => (k_here; (with_reducible show wpAny _ _ (subscriptTail _ _ (Value.ref _) (Value.str _ _)) _ _ _); k_dflt (refine' dTail ?N_31 ?m_31 ?d_31 ?_; (case N_31 => k_asm); (case m_31 => k_mem); (case d_31 => k_asm); k_whole))
  k_with "getItem ref str" => (k_here; k_dflt (refine' dItem ?N_32 ?m_32 ?d_32 ?v_32 ?_; (case N_32 => k_asm); (case m_32 => k_mem); (case d_32 => k_asm); (case v_32 => assumption); k_whole))
  k_with "setItem ref str" => (k_here; k_dflt (refine' dSet ?F_33 ?N_33 ?U_33 ?d_33 ?_ ?z_33; (case F_33 => k_asm); (case N_33 => k_asm); (case U_33 => k_updF); (case d_33 => k_asm); (case z_33 => walk_at "MINE line"); k_whole; intro h'K o'K F'K N'K hd'K; (try dsimp only at N'K); (try k_sweep)))
  k_with "MINE get" => first | (refine' Fr.keep ?fr_34 _ _ ?gt_34; (case fr_34 => k_asm); (case gt_34 => assumption)) | (refine' Fr.keep ?fr_34 _ _ (Below.stays ?kb_34 _ _ ?bt_34); (case fr_34 => k_asm); (case kb_34 => assumption); (case bt_34 => assumption)) | (refine' news_at ?nn_34 ?mm_34; (case nn_34 => k_asm); (case mm_34 => k_mem))
  k_with "subscriptTail" => (k_here; (with_reducible show wpAny _ _ (subscriptTail _ _ (Value.ref _) (Value.int _ _)) _ _ _); k_dflt (refine' lst_in ?l_35 ?a_35 ?b_35 ?v_35 ?_; (case l_35 => walk_at "MINE get"); (case a_35 => walk_at "MINE om"); (case b_35 => walk_at "MINE om"); (case v_35 => assumption); k_whole))
  k_with "subscriptTail" => (k_here; (with_reducible show wpAny _ _ (subscriptTail _ _ (Value.ref _) (Value.int _ _)) _ _ _); k_dflt (refine' lst_out ?hA_36 ?l_36 ?a_36 ?b_36 ?v_36 ?_; (case hA_36 => assumption); (case l_36 => walk_at "MINE get"); (case a_36 => walk_at "MINE om"); (case b_36 => walk_at "MINE om"); (case v_36 => first | assumption | exact rfl); k_whole; intro h'K tk'K e'K hx'K))
  k_with "subscriptTail" => (k_here; (with_reducible show wpAny _ _ (subscriptTail _ _ (Value.ref _) (Value.int _ _)) _ _ _); k_dflt (refine' lst_out0 ?hA_37 ?N_37 ?m_37 ?a_37 ?b_37 ?_; (case hA_37 => assumption); (case N_37 => k_asm); (case m_37 => k_mem); (case a_37 => walk_at "MINE om"); (case b_37 => walk_at "MINE om"); k_whole; intro h'K tk'K e'K hx'K))
  k_with "noteFrame ref" => (k_here; refine' caught_acq ?K_38 ?hx_38 ?F_38 ?N_38 ?XB_38 ?TB_38 ?IB_38 ?fc_38 ?ex_38 PyProof.Rows.Boot.«IndexError» ?hn_38 PySem.F.isExc_IndexError PySem.F.notTuple_IndexError ?hs_38 ?_; (case K_38 => assumption); (case hx_38 => assumption); (case F_38 => k_asm); (case N_38 => k_asm); (case XB_38 => assumption); (case TB_38 => assumption); (case IB_38 => assumption); (case fc_38 => assumption); (case ex_38 => k_is); (case hn_38 => decide); (case hs_38 => exact rfl); intro h'K g'K T'K F'K N'K K'K X'K P'K I'K i1'K i2'K fc'K; (try k_sweep))
  k_with "call ref" => (k_here; (with_reducible show wpAny _ _ (call (Value.ref 568) _) _ _ _); k_dflt (refine' (by assumption : EntryC _ _ _) _ _ _ _ _ _ _ _ _ _ _ _ _ _ _ _ ?F_39 ?N_39 ?X_39 ?T_39 ?n0_39 ?n1_39 ?e0_39 ?e1_39 ?d_39 ?_; (case F_39 => k_asm); (case N_39 => k_asm); (case X_39 => k_asm); (case T_39 => k_asm); (case n0_39 => walk_at "MINE om"); (case n1_39 => walk_at "MINE om"); (case e0_39 => walk_at "MINE om"); (case e1_39 => walk_at "MINE om"); (case d_39 => walk_at "MINE room"); k_whole; intro h'K tk'K x'K dx'K u1K u2K u3K u4K F'K N'K l1K l2K l3K; (try simp only [List.forall_mem_cons, List.not_mem_nil, false_implies, implies_true, and_true] at l3K); (try simp only [List.forall_mem_cons, List.not_mem_nil, false_implies, implies_true, and_true] at l1K); (try k_sweep)))
  k_with "binaryOp Mult ref int" => (k_here; (with_reducible show wpAny _ _ (binaryOp Operator.Mult (Value.ref _) (Value.int _ _)) _ _ _); k_dflt (refine' lst_rep ?F_40 ?N_40 ?m_40 ?a_40 ?b_40 ?_; (case F_40 => k_asm); (case N_40 => k_asm); (case m_40 => k_mem); (case a_40 => walk_at "MINE om"); (case b_40 => walk_at "MINE om"); k_whole; intro D'K h'K F'K N'K l1K; (try k_lt l1K); (try k_sweep)))
  k_with "binaryOp Add ref ref" => (k_here; (with_reducible show wpAny _ _ (binaryOp Operator.Add (Value.ref _) (Value.ref _)) _ _ _); k_dflt (refine' lst_cat ?F_41 ?N_41 ?a_41 ?b_41 ?z_41 ?_; (case F_41 => k_asm); (case N_41 => k_asm); (case a_41 => walk_at "MINE get"); (case b_41 => walk_at "MINE get"); (case z_41 => first | walk_at "MINE line" | (show (List.replicate _ _).length + 0 ≤ _; walk_at "MINE line")); k_whole; intro D'K h'K F'K N'K l1K; (try k_lt l1K); (try k_sweep)))
  k_with "binaryOp Add ref ref" => (k_here; (with_reducible show wpAny _ _ (binaryOp Operator.Add (Value.ref _) (Value.ref _)) _ _ _); k_dflt (refine' lst_cat0 ?F_42 ?N_42 ?a_42 ?b_42 ?z_42 ?_; (case F_42 => k_asm); (case N_42 => k_asm); (case a_42 => walk_at "MINE get"); (case b_42 => k_mem); (case z_42 => walk_at "MINE line"); k_whole; intro D'K h'K F'K N'K l1K; (try k_lt l1K); (try k_sweep)))
  k_with "eval Name" => (k_here; k_dflt (refine' nameX_L ?F_43 ?v_43 ?_ ?a_43 ?b_43; (case F_43 => k_asm); (case a_43 => rfl); (case b_43 => rfl); (case v_43 => assumption); k_whole))
  k_with "callWith ref" => (k_here; (with_reducible show wpAny _ _ (callWith _ (Value.ref _) _ (backTo _ (starEach (_ :: _) _)) []) _ _ _); k_dflt (refine' callFn1 ?_; k_whole))
  k_with "And" => ((with_reducible show FnAt _ _ ∧ _); refine ⟨?a_45, ?_⟩; (case a_45 => (refine' FnAt.keeps ?x_45 ?k_45; (case x_45 => assumption); (case k_45 => exact Fr.keep (by k_asm)))))
  k_with "call ref" => (k_here; k_dflt (refine' key_use ?C_46 ?v_46 ?k_46 ?F_46 ?N_46 ?d_46 ?_; (case C_46 => assumption); (case F_46 => k_asm); (case N_46 => k_asm); (case v_46 => assumption); (case k_46 => assumption); (case d_46 => walk_at "MINE room"); k_whole; intro h'K tk'K t'K F'K N'K; (try k_sweep)))
  k_with "call builtin:len" => (k_here; (with_reducible show wpAny _ _ (call (Value.builtin "len") [Value.ref _]) _ _ _); k_dflt (refine' len_list ?l_47 ?z_47 ?_; (case l_47 => (refine' lst_at ?e_47; (case e_47 => walk_at "MINE get"))); (case z_47 => (rw [List.size_toArray]; walk_at "MINE om")); k_whole))
  k_with "exec While" => (k_here; refine' bis_while ?B_48 ?F_48 ?N_48 ?J_48 ?turn_48 ?E_48; (case B_48 => assumption); (case F_48 => k_asm); (case N_48 => k_asm); (case J_48 => exact ⟨rfl, rfl, rfl, rfl, 0, _, _, _, rfl, rfl, Nat.zero_le _, Nat.le_refl _, Nat.le_refl _, rfl⟩); (case E_48 => passes_own))
  k_with "eval Name" => (k_here; k_dflt (refine' nameX_L ?F_zn ?v_zn ?_ ?a_zn ?b_zn; (case F_zn => k_asm); (case a_zn => rfl); (case b_zn => rfl); (case v_zn => rfl); k_whole))
  trivial

theorem c_bis (w : World) : BisC (Mine.kmake.heap_1 w.params) PySem.Challenge.pw_jo0040_02 w := by
  have hfill : (PySem.Challenge.rw_jo0040_02 = PySem.Challenge.rw_jo0040_02) ∧ (Mine.kmake.heap_1 = Mine.kmake.heap_1) := by k_fill; exact ⟨rfl, rfl⟩
  clear hfill
  intro p loose mg mb A s l f vs n0 ks x t Q E X T hl hf hkey hlen hle hd ret
  have hroom' := hd.d
  have hh := hd.h
  have hu := hd.u
  refine wpAny_call ?_
  refine' enter (Wl := []) (news := []) (binds := [("rows", .ref l), ("x", .int x t), ("key", .ref f)]) X T (fun _ h => nomatch h) ?ho ?hcd ?hroom ?hbind ?hloc ?_ ?c2 ?c3 ?c4 ?c5
  walk_at "MINE enter"
  intro L' h₁ F N lt
  change Fr s.heap L' h₁ _ at F
  change News s.heap L' h₁ _ at N
  (try dsimp only [List.reverse, List.reverseAux] at F)
  clear lt
  generalize hg : s.heap = g at *
  have hBP : BisP l f x t (fun i => decide (ks.getD i 0 < x)) vs.length (bis (fun i => decide (ks.getD i 0 < x)) vs.length 0 vs.length) := ⟨trivial⟩
  (try k_fold)
  k_steps
  refine ⟨?_⟩
  intro n m₁ h₁ tk₁ F₁ N₁ J₁
  obtain ⟨je, ja, jb, jc, lo, hi, t1, t2, jl, jh, q1, q2, q3, q4⟩ := J₁
  clear hBP
  by_cases hlt : (lo : Int) < hi
  · obtain ⟨n', rfl⟩ : ∃ n', n = n' + 1 := ⟨n - 1, by walk_at "MINE om"⟩
    have hmi : ((lo : Int) + hi).fdiv 2 = (((lo + hi) / 2 : Nat) : Int) := by
      rw [Int.fdiv_eq_ediv_of_nonneg _ (by decide)]; walk_at "MINE om"
    have hmid : (((lo : Int) + hi).fdiv 2).toNat = (lo + hi) / 2 := by rw [hmi]; rfl
    have hm0 : 0 ≤ ((lo : Int) + hi).fdiv 2 ∧ ((lo : Int) + hi).fdiv 2 < 2 ^ 40 := by rw [hmi]; walk_at "MINE om"
    have hlt' : (lo + hi) / 2 < vs.length := by walk_at "MINE om"
    obtain ⟨v, hv⟩ : ∃ v, vs[(((lo : Int) + hi).fdiv 2).toNat]? = some v := ⟨_, by rw [hmid]; exact List.getElem?_eq_getElem hlt'⟩
    obtain ⟨k, hk⟩ : ∃ k, ks[(((lo : Int) + hi).fdiv 2).toNat]? = some k := ⟨_, by rw [hmid]; exact List.getElem?_eq_getElem (by walk_at "MINE om")⟩
    have hgk : ks.getD ((lo + hi) / 2) 0 = k := by rw [← hmid, List.getD, hk]; rfl
    have hc1 : ((((lo + hi) / 2 + 1 : Nat)) : Int) = ((lo : Int) + hi).fdiv 2 + 1 := by rw [hmi]; rfl
    rw [bis_step, if_pos (by walk_at "MINE om")] at q4
    simp only [hgk] at q4
    k_steps
    · rw [if_pos (decide_eq_true (by assumption))] at q4
      refine' WhileStep.intro (n' := n') ?F ?N ?hn ⟨rfl, ?j1, ?j2, ?j3, (lo + hi) / 2 + 1, hi, _, _, ?l, ?j4, ?a, ?b, ?c, q4⟩
      (case F => k_asm); (case N => k_asm); (case hn => walk_at "MINE om"); (case j1 => exact ja); (case j2 => exact jb); (case j3 => exact jc); (case j4 => exact jh); (case l => (rw [hc1]; exact rfl)); (case a => walk_at "MINE om"); (case b => walk_at "MINE om"); (case c => walk_at "MINE om")
    · rw [if_neg (by simpa using (by assumption : ¬ k < x))] at q4
      refine' WhileStep.intro (n' := n') ?F ?N ?hn ⟨rfl, ?j1, ?j2, ?j3, lo, (lo + hi) / 2, _, _, ?j4, ?l, ?a, ?b, ?c, q4⟩
      (case F => k_asm); (case N => k_asm); (case hn => walk_at "MINE om"); (case j1 => exact ja); (case j2 => exact jb); (case j3 => exact jc); (case j4 => exact jl); (case l => (rw [← hmi]; exact rfl)); (case a => walk_at "MINE om"); (case b => walk_at "MINE om"); (case c => walk_at "MINE om")
  · have hr : bis (fun i => decide (ks.getD i 0 < x)) vs.length 0 vs.length = lo := by
      rw [← q4]
      cases n with
      | zero => rfl
      | succ n => unfold bis; rw [if_neg (by walk_at "MINE om")]
    rw [hr] at ret
    k_steps
    exact ret _ _ _ (Fr.keep (by k_asm))

theorem reg_CGmw : True := by
  k_with_none
  k_with "MINE pj" => (first | with_reducible assumption | exact an0 (by with_reducible assumption) | exact an1 (by with_reducible assumption) | exact an2 (by with_reducible assumption) | exact an3 (by with_reducible assumption) | exact an4 (by with_reducible assumption) | exact an5 (by with_reducible assumption) | exact an6 (by with_reducible assumption) | exact an7 (by with_reducible assumption) | exact an8 (by with_reducible assumption) | exact an9 (by with_reducible assumption) | exact bn1 (by with_reducible assumption) | exact bn2 (by with_reducible assumption) | exact bn3 (by with_reducible assumption) | exact bn4 (by with_reducible assumption) | exact bn5 (by with_reducible assumption) | exact bn6 (by with_reducible assumption) | exact bn7 (by with_reducible assumption) | exact bn8 (by with_reducible assumption))
  k_with "MINE lt" => (first | walk_at "MINE pj" | (with_reducible refine Nat.lt_trans ?_ (by with_reducible assumption); walk_at "MINE lt"))
  k_with "MINE ne" => (with_reducible refine neN ?_; (try dsimp only); first | with_reducible assumption | (refine Ne.symm ?_; with_reducible assumption) | (refine Nat.ne_of_lt ?_; with_reducible assumption) | (refine Nat.ne_of_gt ?_; with_reducible assumption) | (simp only [*, ne_eq, not_false_eq_true]; done) | (refine Ne.symm ?_; (simp only [*, ne_eq, not_false_eq_true]; done)) | (refine Nat.ne_of_lt ?_; (simp only [*]; done)) | (refine Nat.ne_of_gt ?_; (simp only [*]; done)) | assumption | decide | (refine Nat.ne_of_gt ?_; walk_at "MINE lt") | (refine Nat.ne_of_lt ?_; walk_at "MINE lt") | lia | omega)
  k_with "MINE nes" => (repeat' (first | (refine And.intro ?_ ?_) | (with_reducible refine neN ?_; walk_at "MINE ne")))
  k_with "MINE om" => (first | with_reducible assumption | exact Nat.le_of_ble_eq_true rfl | exact an0 (by with_reducible assumption) | exact bn1 (by with_reducible assumption) | exact an1 (by with_reducible assumption) | exact Nat.lt_of_le_of_lt (Nat.le_add_right _ _) (by with_reducible assumption) | exact Int.lt_trans (by with_reducible assumption) (by decide) | exact Int.lt_trans (bn1 (by with_reducible assumption)) (by decide) | exact Int.lt_of_lt_of_le (by decide) (by with_reducible assumption) | exact Int.lt_of_lt_of_le (by decide) (an0 (by with_reducible assumption)) | exact Nat.le_trans (by with_reducible assumption) (by decide) | exact Int.le_of_lt (by with_reducible assumption) | exact Int.le_trans (by with_reducible assumption) (by decide) | exact Int.lt_of_le_of_lt (by with_reducible assumption) (by decide) | decide | (walk_at "MINE nes"; done) | lia | omega)
  k_with "getMethod ref" => (k_here; k_dflt (refine' dMethI ?N_0 ?m_0 ?d_0 ?i_0 ?_; (case N_0 => k_asm); (case m_0 => k_mem); (case d_0 => k_asm); (case i_0 => exact rfl); k_whole))
  k_with "call builtin:dict.get" => (k_here; k_dflt (refine' dGetI ?N_1 ?m_1 ?d_1 ?lo_1 ?_; (case N_1 => k_asm); (case m_1 => k_mem); (case d_1 => k_asm); (case lo_1 => k_asm); k_whole; intro t'K))
  k_with "call builtin:dict.pop" => (k_here; k_dflt (refine' dPopI ?F_2 ?N_2 ?U_2 ?d_2 ?lo_2 ?z_2 ?_; (case F_2 => k_asm); (case N_2 => k_asm); (case U_2 => k_updF); (case d_2 => k_asm); (case lo_2 => k_asm); (case z_2 => walk_at "MINE om"); k_whole; intro h'K o'K v'K F'K N'K hd'K; (try dsimp only at N'K); (try k_sweep)))
  k_with "getMethod ref" => (k_here; k_dflt (refine' dMethV ?N_3 ?m_3 ?d_3 ?i_3 ?_; (case N_3 => k_asm); (case m_3 => k_mem); (case d_3 => k_asm); (case i_3 => exact rfl); k_whole))
  k_with "call builtin:dict.pop" => (k_here; k_dflt (refine' dPopV ?F_4 ?N_4 ?U_4 ?d_4 ?lo_4 ?z_4 ?_; (case F_4 => k_asm); (case N_4 => k_asm); (case U_4 => k_updF); (case d_4 => k_asm); (case lo_4 => k_asm); (case z_4 => walk_at "MINE om"); k_whole; intro h'K o'K v'K F'K N'K hd'K; (try dsimp only at N'K); (try k_sweep)))
  k_with "setItem ref str" => (k_here; k_dflt (refine' dSetI ?F_5 ?N_5 ?U_5 ?d_5 ?z_5 ?_; (case F_5 => k_asm); (case N_5 => k_asm); (case U_5 => k_updF); (case d_5 => k_asm); (case z_5 => walk_at "MINE om"); k_whole; intro h'K o'K F'K N'K hd'K; (try dsimp only at N'K); (try k_sweep)))
  k_with "subscriptTail" => (k_here; (with_reducible show wpAny _ _ (subscriptTail _ _ (Value.ref _) (Value.str _ _)) _ _ _); k_dflt (refine' dTailI ?N_6 ?m_6 ?d_6 ?_; (case N_6 => k_asm); (case m_6 => k_mem); (case d_6 => k_asm); k_whole))
  k_with "getItem ref str" => (k_here; k_dflt (refine' dItemI ?N_7 ?m_7 ?d_7 ?v_7 ?_; (case N_7 => k_asm); (case m_7 => k_mem); (case d_7 => k_asm); (case v_7 => first | k_asm | exact if_pos rfl); k_whole; intro t'K))
  k_with "getAttr ref" => (k_here; k_dflt (refine' getOwnG ?k1_8 ?k2_8 ?i1_8 ?i2_8 ?k4_8 ?k5_8 ?k6_8 ?k7_8 ?k8_8 ?k9_8 ?_; (case k1_8 => k_asm); (case k2_8 => k_asm); (case i1_8 => k_asm); (case i2_8 => k_asm); (case k4_8 => k_is); (case k5_8 => k_is); (case k6_8 => k_is); (case k7_8 => k_is); (case k8_8 => k_get); (case k9_8 => k_handed); k_whole))
  k_with "getMethod ref" => (k_here; k_dflt (refine' methG ?k1_9 ?k2_9 ?i1_9 ?i2_9 ?k4_9 ?k5_9 ?k6_9 ?k7_9 ?_; (case k1_9 => k_asm); (case k2_9 => k_asm); (case i1_9 => k_asm); (case i2_9 => k_asm); (case k4_9 => k_is); (case k5_9 => k_is); (case k6_9 => k_is); (case k7_9 => k_get); k_whole))
  k_with "getMethod ref" => (k_here; k_dflt (refine' kmuOwnG ?k1_10 ?k2_10 ?i1_10 ?i2_10 ?k4_10 ?k5_10 ?_; (case k1_10 => k_asm); (case k2_10 => k_asm); (case i1_10 => k_asm); (case i2_10 => k_asm); (case k4_10 => k_is); (case k5_10 => k_is); k_whole))
  k_with "callWith ref" => (k_here; (with_reducible show wpAny _ _ (callWith _ (Value.ref _) [] (backTo _ (starEach [] _)) []) _ _ _); k_dflt (refine' callFn0 ?k1_11 ?k2_11 ?_; (case k1_11 => k_asm); (case k2_11 => k_asm); k_whole))
  k_with "callWith ref" => (k_here; (with_reducible show wpAny _ _ (callWith _ (Value.ref _) _ (backTo _ (starEach (_ :: _) _)) []) _ _ _); k_dflt (first | (refine' callWith_K ?k1_12 ?k2_12 ?_; (case k1_12 => k_asm); (case k2_12 => k_is); k_whole) | (refine' callWith_M ?k1_12 ?k2_12 ?k3_12 ?k4_12 ?_; (case k1_12 => k_asm); (case k2_12 => k_asm); (case k3_12 => k_mem); (case k4_12 => k_is); k_whole)))
  k_with "MINE room" => (first | assumption | exact ArOk.down (by assumption) (by walk_at "MINE om"))
  k_with "call ref" => (k_here; k_dflt (refine' clk_use ?C_14 ?F_14 ?N_14 ?d_14 ?_; (case C_14 => k_asm); (case F_14 => k_asm); (case N_14 => k_asm); (case d_14 => walk_at "MINE room"); k_whole; intro h'K tk'K t'K F'K N'K; (try k_sweep)))
  k_with "call ref" => (k_here; (with_reducible show wpAny _ _ (call (Value.ref 616) _) _ _ _); k_dflt (refine' get_use ?C_15 ?ok_15 ?F_15 ?N_15 ?ms_15 ?me_15 ?mv_15 ?U1_15 ?U2_15 ?U3_15 ?X_15 ?T_15 ?I_15 ?hS_15 ?hE_15 ?hc_15 ?hd_15 ?_; (case C_15 => k_asm); (case ok_15 => k_asm); (case F_15 => k_asm); (case N_15 => k_asm); (case ms_15 => k_mem); (case me_15 => k_mem); (case mv_15 => k_mem); (case U1_15 => k_updF); (case U2_15 => (intro xK; k_updF)); (case U3_15 => (intro xK yK; k_updF)); (case X_15 => k_asm); (case T_15 => k_asm); (case I_15 => k_asm); (case hS_15 => k_asm); (case hE_15 => k_asm); (case hc_15 => walk_at "MINE om"); (case hd_15 => walk_at "MINE room"); k_whole; intro h'K tk'K t'K os'K oe'K F'K N'K hS'K hE'K; (try dsimp only at N'K); (try k_sweep)))
  k_with "MINE enter" => (
  (case ho => k_is); (case hcd => k_is); (case hroom => walk_at "MINE om"); (case hbind => first | exact BindsTo.of_eq rfl | exact binds_K (by k_in) rfl (by k_is) rfl rfl rfl);
  (case c5 => decide); (case hloc => exact locs rfl); (case c2 => exact rfl); (case c3 => exact rfl); (case c4 => exact rfl))
  k_with "MINE exit" => ((case F => k_asm); (case N => k_asm); (case a => k_mem); (case b => k_mem); (case c => k_mem))
  k_with "formatField int" => (k_here; (with_reducible show wpAny _ _ (formatField (Value.int _ _) _) _ _ _); k_dflt (refine' fmtI ?a_18 ?b_18 ?_; (case a_18 => walk_at "MINE om"); (case b_18 => walk_at "MINE om"); k_whole; intro hy'K t'K))
  k_with "And" => ((with_reducible show PySem.Str.length (_ ++ _) ≤ sizeLine ∧ wpAny _ _ (joinParts _ _) _ _ _); refine ⟨?a_19, ?_⟩; (case a_19 => (simp only [Str.length_append, Str.empty_append, slk_one, sizeLine_eq]; walk_at "MINE om")))
  k_with "getMethod ref" => (k_here; k_dflt (refine' kmuCmG ?k1_20 ?k2_20 ?k3_20 ?i1_20 ?i2_20 ?k5_20 ?k6_20 ?k7_20 ?k8_20 ?k9_20 ?k10_20 ?k11_20 ?k12_20 ?k13_20 ?_; (case k1_20 => k_asm); (case k2_20 => k_asm); (case k3_20 => k_asm); (case i1_20 => k_asm); (case i2_20 => k_asm); (case k5_20 => k_is); (case k6_20 => k_is); (case k7_20 => k_is); (case k8_20 => k_is); (case k9_20 => k_is); (case k10_20 => k_is); (case k11_20 => decide +kernel); (case k12_20 => k_get); (case k13_20 => k_is); k_whole; intro q'K h'K F'K N'K l1K; (try k_lt l1K); (try k_sweep)))
  k_with "call ref" => (k_here; k_dflt (refine' keys_use ?C_21 ?F_21 ?N_21 ?q_21 ?X_21 ?T_21 ?h0_21 ?h1_21 ?h2_21 ?hk_21 ?hd_21 ?_; (case C_21 => k_asm); (case F_21 => k_asm); (case N_21 => k_asm); (case q_21 => k_mem); (case X_21 => k_asm); (case T_21 => k_asm); (case h0_21 => walk_at "MINE om"); (case h1_21 => walk_at "MINE om"); (case h2_21 => walk_at "MINE om"); (case hk_21 => assumption); (case hd_21 => walk_at "MINE room"); k_whole; intro h'K tk'K tp'K u1K u2K F'K N'K l1K; (try simp only [List.forall_mem_cons, List.not_mem_nil, false_implies, implies_true, and_true] at l1K); (try k_sweep)))
  k_with "call ref" => (k_here; (with_reducible show wpAny _ _ (call (Value.ref 660) _) _ _ _); k_dflt (refine' info_use ?C_22 ?ok_22 ?F_22 ?N_22 ?ms_22 ?me_22 ?mv_22 ?U1_22 ?U2_22 ?U3_22 ?X_22 ?T_22 ?I_22 ?hV_22 ?hS_22 ?hE_22 ?hc_22 ?h0_22 ?hd_22 ?_; (case C_22 => k_asm); (case ok_22 => k_asm); (case F_22 => k_asm); (case N_22 => k_asm); (case ms_22 => k_mem); (case me_22 => k_mem); (case mv_22 => k_mem); (case U1_22 => k_updF); (case U2_22 => (intro xK; k_updF)); (case U3_22 => (intro xK yK; k_updF)); (case X_22 => k_asm); (case T_22 => k_asm); (case I_22 => k_asm); (case hV_22 => k_asm); (case hS_22 => k_asm); (case hE_22 => k_asm); (case hc_22 => walk_at "MINE om"); (case h0_22 => walk_at "MINE om"); (case hd_22 => walk_at "MINE room"); k_whole; intro h'K tk'K os'K oe'K tp'K u1K u2K u3K u4K F'K N'K l1K hS'K hE'K; (try simp only [List.forall_mem_cons, List.not_mem_nil, false_implies, implies_true, and_true] at l1K); (try dsimp only at N'K); (try k_sweep)))
  k_with "call ref" => (k_here; (with_reducible show wpAny _ _ (call (Value.ref 601) _ _) _ _ _); k_dflt (refine' incr_use ?C_23 ?ok_23 ?F_23 ?N_23 ?ms_23 ?me_23 ?mv_23 ?U1_23 ?U2_23 ?U3_23 ?X_23 ?T_23 ?I_23 ?hS_23 ?hE_23 ?hc_23 ?hd_23 ?_; (case C_23 => k_asm); (case ok_23 => k_asm); (case F_23 => k_asm); (case N_23 => k_asm); (case ms_23 => k_mem); (case me_23 => k_mem); (case mv_23 => k_mem); (case U1_23 => k_updF); (case U2_23 => (intro xK; k_updF)); (case U3_23 => (intro xK yK; k_updF)); (case X_23 => k_asm); (case T_23 => k_asm); (case I_23 => k_asm); (case hS_23 => k_asm); (case hE_23 => k_asm); (case hc_23 => walk_at "MINE om"); (case hd_23 => walk_at "MINE room"); k_whole; intro h'K tk'K t'K os'K oe'K F'K N'K hS'K hE'K; (try dsimp only at N'K); (try k_sweep)))
  k_with "call ref" => (k_here; (with_reducible show wpAny _ _ (call (Value.ref 623) _) _ _ _); k_dflt (refine' clear_use ?C_24 ?ok_24 ?F_24 ?N_24 ?ms_24 ?me_24 ?mv_24 ?U1_24 ?U2_24 ?U3_24 ?X_24 ?T_24 ?I_24 ?hS_24 ?hE_24 ?hV_24 ?hc_24 ?hd_24 ?_; (case C_24 => k_asm); (case ok_24 => k_asm); (case F_24 => k_asm); (case N_24 => k_asm); (case ms_24 => k_mem); (case me_24 => k_mem); (case mv_24 => k_mem); (case U1_24 => k_updF); (case U2_24 => (intro xK; k_updF)); (case U3_24 => (intro xK yK; k_updF)); (case X_24 => k_asm); (case T_24 => k_asm); (case I_24 => k_asm); (case hS_24 => k_asm); (case hE_24 => k_asm); (case hV_24 => k_asm); (case hc_24 => walk_at "MINE om"); (case hd_24 => walk_at "MINE room"); k_whole; intro h'K tk'K os'K oe'K ov'K F'K N'K hS'K hE'K hV'K; (try dsimp only at N'K); (try k_sweep)))
  k_with "assign Tuple" => (k_here; (with_reducible show wpAny _ _ (assign (Expr.Tuple _ _ _) _ (Value.ref _)) _ _ _); k_dflt (refine' unpackN_ ?k1_25 ?k2_25 ?k3_25 ?k4_25 ?k5_25 ?k6_25 ?_; (case k1_25 => k_asm); (case k2_25 => k_asm); (case k3_25 => kun_tup); (case k4_25 => assumption); (case k5_25 => exact rfl); (case k6_25 => exact rfl); k_whole); intro h'K F'K N'K; (try k_sweep))
  k_with "binaryOp Mult int int" => (k_here; (first | refine PySem.mul_int ?_ (hm := IntMulOk.of_left (intBits_le_64 (by walk_at "MINE om") (by walk_at "MINE om"))) | refine PySem.mul_int ?_ (hm := IntMulOk.of_right (intBits_le_64 (by walk_at "MINE om") (by walk_at "MINE om")))))
  k_with "MINE line" => first | (simp only [sizeLine_eq, List.length_replicate]; walk_at "MINE om") | exact Nat.le_trans (stored_length_le _ _ _) (by rw [sizeLine_eq]; walk_at "MINE om")
  k_with "getMethod ref" => (k_here; k_dflt (refine' dMeth ?N_28 ?m_28 ?d_28 ?i_28 ?_; (case N_28 => k_asm); (case m_28 => k_mem); (case d_28 => k_asm); (case i_28 => exact rfl); k_whole))
  k_with "call builtin:dict.setdefault" => (k_here; k_dflt (refine' dSdThere ?N_29 ?m_29 ?d_29 ?lo_29 ?l_29 ?z_29 ?_; (case N_29 => k_asm); (case m_29 => k_mem); (case d_29 => k_asm); (case lo_29 => k_asm); (case l_29 => assumption); (case z_29 => walk_at "MINE line"); k_whole))
  k_with "call builtin:dict.setdefault" => (k_here; k_dflt (refine' dSdNew ?F_30 ?N_30 ?U_30 ?d_30 ?lo_30 ?l_30 ?z_30 ?_; (case F_30 => k_asm); (case N_30 => k_asm); (case U_30 => k_updF); (case d_30 => k_asm); (case lo_30 => k_asm); (case l_30 => assumption); (case z_30 => walk_at "MINE line"); k_whole; intro h'K o'K F'K N'K hd'K hv'K; (try dsimp only at N'K); (try k_sweep)))
  k_with "subscriptTail" => (k_here; (with_reducible show wpAny _ _ (subscriptTail _ _ (Value.ref _) (Value.str _ _)) _ _ _); k_dflt (refine' dTail ?N_31 ?m_31 ?d_31 ?_; (case N_31 => k_asm); (case m_31 => k_mem); (case d_31 => k_asm); k_whole))
  k_with "getItem ref str" => (k_here; k_dflt (refine' dItem ?N_32 ?m_32 ?d_32 ?v_32 ?_; (case N_32 => k_asm); (case m_32 => k_mem); (case d_32 => k_asm); (case v_32 => assumption); k_whole))
  k_with "setItem ref str" => (k_here; k_dflt (refine' dSet ?F_33 ?N_33 ?U_33 ?d_33 ?_ ?z_33; (case F_33 => k_asm); (case N_33 => k_asm); (case U_33 => k_updF); (case d_33 => k_asm); (case z_33 => walk_at "MINE line"); k_whole; intro h'K o'K F'K N'K hd'K; (try dsimp only at N'K); (try k_sweep)))
  k_with "MINE get" => first | (refine' Fr.keep ?fr_34 _ _ ?gt_34; (case fr_34 => k_asm); (case gt_34 => assumption)) | (refine' Fr.keep ?fr_34 _ _ (Below.stays ?kb_34 _ _ ?bt_34); (case fr_34 => k_asm); (case kb_34 => assumption); (case bt_34 => assumption)) | (refine' news_at ?nn_34 ?mm_34; (case nn_34 => k_asm); (case mm_34 => k_mem))
  k_with "subscriptTail" => (k_here; (with_reducible show wpAny _ _ (subscriptTail _ _ (Value.ref _) (Value.int _ _)) _ _ _); k_dflt (refine' lst_in ?l_35 ?a_35 ?b_35 ?v_35 ?_; (case l_35 => walk_at "MINE get"); (case a_35 => walk_at "MINE om"); (case b_35 => walk_at "MINE om"); (case v_35 => assumption); k_whole))
  k_with "subscriptTail" => (k_here; (with_reducible show wpAny _ _ (subscriptTail _ _ (Value.ref _) (Value.int _ _)) _ _ _); k_dflt (refine' lst_out ?hA_36 ?l_36 ?a_36 ?b_36 ?v_36 ?_; (case hA_36 => assumption); (case l_36 => walk_at "MINE get"); (case a_36 => walk_at "MINE om"); (case b_36 => walk_at "MINE om"); (case v_36 => first | assumption | exact rfl); k_whole; intro h'K tk'K e'K hx'K))
  k_with "subscriptTail" => (k_here; (with_reducible show wpAny _ _ (subscriptTail _ _ (Value.ref _) (Value.int _ _)) _ _ _); k_dflt (refine' lst_out0 ?hA_37 ?N_37 ?m_37 ?a_37 ?b_37 ?_; (case hA_37 => assumption); (case N_37 => k_asm); (case m_37 => k_mem); (case a_37 => walk_at "MINE om"); (case b_37 => walk_at "MINE om"); k_whole; intro h'K tk'K e'K hx'K))
  k_with "noteFrame ref" => (k_here; refine' caught_acq ?K_38 ?hx_38 ?F_38 ?N_38 ?XB_38 ?TB_38 ?IB_38 ?fc_38 ?ex_38 PyProof.Rows.Boot.«IndexError» ?hn_38 PySem.F.isExc_IndexError PySem.F.notTuple_IndexError ?hs_38 ?_; (case K_38 => assumption); (case hx_38 => assumption); (case F_38 => k_asm); (case N_38 => k_asm); (case XB_38 => assumption); (case TB_38 => assumption); (case IB_38 => assumption); (case fc_38 => assumption); (case ex_38 => k_is); (case hn_38 => decide); (case hs_38 => exact rfl); intro h'K g'K T'K F'K N'K K'K X'K P'K I'K i1'K i2'K fc'K; (try k_sweep))
  k_with "call ref" => (k_here; (with_reducible show wpAny _ _ (call (Value.ref 568) _) _ _ _); k_dflt (refine' (by assumption : EntryC _ _ _) _ _ _ _ _ _ _ _ _ _ _ _ _ _ _ _ ?F_39 ?N_39 ?X_39 ?T_39 ?n0_39 ?n1_39 ?e0_39 ?e1_39 ?d_39 ?_; (case F_39 => k_asm); (case N_39 => k_asm); (case X_39 => k_asm); (case T_39 => k_asm); (case n0_39 => walk_at "MINE om"); (case n1_39 => walk_at "MINE om"); (case e0_39 => walk_at "MINE om"); (case e1_39 => walk_at "MINE om"); (case d_39 => walk_at "MINE room"); k_whole; intro h'K tk'K x'K dx'K u1K u2K u3K u4K F'K N'K l1K l2K l3K; (try simp only [List.forall_mem_cons, List.not_mem_nil, false_implies, implies_true, and_true] at l3K); (try simp only [List.forall_mem_cons, List.not_mem_nil, false_implies, implies_true, and_true] at l1K); (try k_sweep)))
  k_with "binaryOp Mult ref int" => (k_here; (with_reducible show wpAny _ _ (binaryOp Operator.Mult (Value.ref _) (Value.int _ _)) _ _ _); k_dflt (refine' lst_rep ?F_40 ?N_40 ?m_40 ?a_40 ?b_40 ?_; (case F_40 => k_asm); (case N_40 => k_asm); (case m_40 => k_mem); (case a_40 => walk_at "MINE om"); (case b_40 => walk_at "MINE om"); k_whole; intro D'K h'K F'K N'K l1K; (try k_lt l1K); (try k_sweep)))
  k_with "binaryOp Add ref ref" => (k_here; (with_reducible show wpAny _ _ (binaryOp Operator.Add (Value.ref _) (Value.ref _)) _ _ _); k_dflt (refine' lst_cat ?F_41 ?N_41 ?a_41 ?b_41 ?z_41 ?_; (case F_41 => k_asm); (case N_41 => k_asm); (case a_41 => walk_at "MINE get"); (case b_41 => walk_at "MINE get"); (case z_41 => first | walk_at "MINE line" | (show (List.replicate _ _).length + 0 ≤ _; walk_at "MINE line")); k_whole; intro D'K h'K F'K N'K l1K; (try k_lt l1K); (try k_sweep)))
  k_with "binaryOp Add ref ref" => (k_here; (with_reducible show wpAny _ _ (binaryOp Operator.Add (Value.ref _) (Value.ref _)) _ _ _); k_dflt (refine' lst_cat0 ?F_42 ?N_42 ?a_42 ?b_42 ?z_42 ?_; (case F_42 => k_asm); (case N_42 => k_asm); (case a_42 => walk_at "MINE get"); (case b_42 => k_mem); (case z_42 => walk_at "MINE line"); k_whole; intro D'K h'K F'K N'K l1K; (try k_lt l1K); (try k_sweep)))
  k_with "eval Name" => (k_here; k_dflt (refine' nameX_L ?F_43 ?v_43 ?_ ?a_43 ?b_43; (case F_43 => k_asm); (case a_43 => rfl); (case b_43 => rfl); (case v_43 => assumption); k_whole))
  k_with "callWith ref" => (k_here; (with_reducible show wpAny _ _ (callWith _ (Value.ref _) _ (backTo _ (starEach (_ :: _) _)) []) _ _ _); k_dflt (refine' callFn1 ?_; k_whole))
  k_with "And" => ((with_reducible show FnAt _ _ ∧ _); refine ⟨?a_45, ?_⟩; (case a_45 => (refine' FnAt.keeps ?x_45 ?k_45; (case x_45 => assumption); (case k_45 => exact Fr.keep (by k_asm)))))
  k_with "call ref" => (k_here; k_dflt (refine' key_use ?C_46 ?v_46 ?k_46 ?F_46 ?N_46 ?d_46 ?_; (case C_46 => assumption); (case F_46 => k_asm); (case N_46 => k_asm); (case v_46 => assumption); (case k_46 => assumption); (case d_46 => walk_at "MINE room"); k_whole; intro h'K tk'K t'K F'K N'K; (try k_sweep)))
  k_with "call builtin:len" => (k_here; (with_reducible show wpAny _ _ (call (Value.builtin "len") [Value.ref _]) _ _ _); k_dflt (refine' len_list ?l_47 ?z_47 ?_; (case l_47 => (refine' lst_at ?e_47; (case e_47 => walk_at "MINE get"))); (case z_47 => (rw [List.size_toArray]; walk_at "MINE om")); k_whole))
  k_with "call builtin:dict.get" => (k_here; k_dflt (first | (refine' dGetS ?N_48 ?m_48 ?d_48 ?lo_48 ?v_48 ?_; (case N_48 => k_asm); (case m_48 => k_mem); (case d_48 => k_asm); (case lo_48 => k_asm); (case v_48 => assumption); k_whole) | (refine' dGetN ?N_48 ?m_48 ?d_48 ?lo_48 ?v_48 ?_; (case N_48 => k_asm); (case m_48 => k_mem); (case d_48 => k_asm); (case lo_48 => k_asm); (case v_48 => assumption); k_whole)))
  k_with "truthy ref" => (k_here; k_dflt (first | (refine' truthy0 ?l_49 ?_; (case l_49 => walk_at "MINE get"); k_whole) | (refine' truthy1 ?l_49 ?z_49 ?_; (case l_49 => walk_at "MINE get"); (case z_49 => assumption); k_whole)))
  k_with "call ref" => (k_here; (with_reducible show wpAny _ _ (call (Value.ref 551) _ _) _ _ _); refine' bis_use ?C_50 ?ks_50 ?F_50 ?N_50 ?X_50 ?T_50 ?l_50 ?f_50 ?d_50 ?key_50 ?go_50; (case C_50 => assumption); (case ks_50 => assumption); (case F_50 => k_asm); (case N_50 => k_asm); (case X_50 => k_asm); (case T_50 => k_asm); (case l_50 => walk_at "MINE get"); (case f_50 => (refine' fnAt_news ?a_50 ?b_50; (case a_50 => k_asm); (case b_50 => k_mem))); (case d_50 => walk_at "MINE room"); (case' go_50 => (intro h'K tk'K t'K F'K N'K; (try k_sweep))))
  k_with "subscriptTail" => (k_here; (with_reducible show wpAny _ _ (subscriptTail _ _ (Value.ref _) (Value.int _ _)) _ _ _); k_dflt (refine' lst_m1 ?l_51 ?r_51 ?n_51 ?z_51 ?v_51 ?_; (case l_51 => walk_at "MINE get"); (case r_51 => exact (bis_le _ _ _ _ (Nat.zero_le _)).2); (case n_51 => exact Nat.succ_pos _); (case z_51 => assumption); (case v_51 => assumption); k_whole))
  k_with "eval Name" => (k_here; k_dflt (refine' nameX_L ?F_zn ?v_zn ?_ ?a_zn ?b_zn; (case F_zn => k_asm); (case a_zn => rfl); (case b_zn => rfl); (case v_zn => rfl); k_whole))
  trivial

theorem c_gmw (w : World) (hBis : BisC (Mine.kmake.heap_1 w.params) PySem.Challenge.pw_jo0040_02 w) (hLam : LamC (Mine.kmake.heap_1 w.params) PySem.Challenge.pw_jo0040_02 w "entry" "atime" Prod.fst) : GmwC (Mine.kmake.heap_1 w.params) PySem.Challenge.pw_jo0040_02 w gmwPos := by
  have hfill : (PySem.Challenge.rw_jo0040_02 = PySem.Challenge.rw_jo0040_02) ∧ (Mine.kmake.heap_1 = Mine.kmake.heap_1) := by k_fill; exact ⟨rfl, rfl⟩
  clear hfill
  intro p loose mean mg mb S now os oe ov ot A s key limit expiry t1 t2 t3 fv lg c Q E ok h640 X Tp I hCd hs he hv ht hSc hEc hVc hlam hV hlg hc hlen he0 he30 hn30 hd ret
  have T : TopRead p loose mg mb (hideAll s.heap (640 :: S.W)) := topRead_of Tp
  obtain ⟨n1, n2, n3, l1, l2, l3, b1⟩ := id ok
  have hroom' := hd.d
  have hh := hd.h
  have hu := hd.u
  obtain ⟨kvs, hdv, hl0, hr⟩ := hV
  refine wpAny_call ?_
  refine' enter (Wl := 640 :: S.W) (news := [(640, ot), (S.ds, os), (S.de, oe), (S.dv, ov)]) (binds := [("self", .ref S.st), ("key", .str key t1), ("limit", .int limit t2), ("expiry", .int expiry t3)]) X T (fun q hq => by
    rcases List.mem_cons.mp hq with rfl | hq
    · exact ⟨ht, .head _⟩
    · exact ⟨(own3 hs he hv q hq).1, .tail _ (own3 hs he hv q hq).2⟩) ?ho ?hcd ?hroom ?hbind ?hloc ?_ ?c2 ?c3 ?c4 ?c5
  walk_at "MINE enter"
  intro L' h₁ F N lt
  (try dsimp only [List.reverse, List.reverseAux] at F)
  clear hs he hv ht lt
  generalize hg : hideAll s.heap (640 :: S.W) = g at *
  have i1 := I.i1
  have i2 := I.i2
  obtain ⟨fcc, fcd, fcf, fcs, hfc⟩ := I.fn
  have hb := I.bnd
  (try k_fold)
  cases hk : fv key with
  | none =>
    have hvk := hr.none hk
    have er : sGmw fv now key expiry = (now, 0) := by simp [sGmw, hk]
    rw [er] at ret
    k_steps
    refine' ret _ _ ot _ _ _ (Fr.keep ?F) ?a ?b ?c ?d (Or.inl rfl) ?e ?f
    (case F => k_asm); (case a => exact news_at (by k_asm) (by k_mem)); (case b => exact news_at (by k_asm) (by k_mem)); (case c => exact news_at (by k_asm) (by k_mem)); (case d => exact news_at (by k_asm) (by k_mem)); (case e => (refine' gone4 hg ?x ?y ?z; (case x => k_asm); (case y => exact List.Mem.head _); (case z => walk_at "MINE om"))); (case f => exact News.get (by assumption) (List.Mem.head _))
  | some es =>
    obtain ⟨v0, hvk, l0, vs, n0, rfl, hmem, hents⟩ := hr.some hk
    have hl0g : g.get? l0 = some (lstO vs n0) := hlg _ hmem
    have hles := hlen es hk
    have hlvs := hents.len
    cases hents with
    | nil =>
      have er : sGmw fv now key expiry = (now, 0) := by simp [sGmw, hk]
      rw [er] at ret
      k_steps
      refine' ret _ _ ot _ _ _ (Fr.keep ?F) ?a ?b ?c ?d (Or.inl rfl) ?e ?f
      (case F => k_asm); (case a => exact news_at (by k_asm) (by k_mem)); (case b => exact news_at (by k_asm) (by k_mem)); (case c => exact news_at (by k_asm) (by k_mem)); (case d => exact news_at (by k_asm) (by k_mem)); (case e => (refine' gone4 hg ?x ?y ?z; (case x => k_asm); (case y => exact List.Mem.head _); (case z => walk_at "MINE om"))); (case f => exact News.get (by assumption) (List.Mem.head _))
    | @cons v0 vs0 a0 x0 es0 hent0 hents0 =>
      have hvz : (v0 :: vs0).length ≤ 90000 := by rw [hlvs]; exact hles
      have hKs : KsP (v0 :: vs0) (((a0, x0) :: es0).map fun q => -q.1) := ⟨by rw [List.length_map]; exact hlvs, hvz⟩
      have hrl := (bis_le (fun i => decide ((((a0, x0) :: es0).map fun q => -q.1).getD i 0 < -(now - expiry))) (v0 :: vs0).length 0 (v0 :: vs0).length (Nat.zero_le _)).2
      obtain ⟨vp, hvp⟩ : ∃ vp, (v0 :: vs0)[if bis (fun i => decide ((((a0, x0) :: es0).map fun q => -q.1).getD i 0 < -(now - expiry))) (v0 :: vs0).length 0 (v0 :: vs0).length = 0 then (v0 :: vs0).length - 1 else bis (fun i => decide ((((a0, x0) :: es0).map fun q => -q.1).getD i 0 < -(now - expiry))) (v0 :: vs0).length 0 (v0 :: vs0).length - 1]? = some vp :=
        ⟨_, List.getElem?_eq_getElem (by
          split
          · exact Nat.sub_lt (Nat.succ_pos _) Nat.one_pos
          · walk_at "MINE om")⟩
      obtain ⟨q1, hq1, ⟨e1, d1, u1, u2, u3, u4, nn1, rfl, hm1, hm2⟩⟩ := (EntsAt.cons hent0 hents0).at hvp
      have hg1 : g.get? e1 = some (instObj EntC d1) := hlg _ hm1
      have hg2 : g.get? d1 = some (dictOf (entryDict w u1 u2 u3 u4 q1.1 q1.2) nn1) := hlg _ hm2
      unfold EntC at hg1
      have er : sGmw fv now key expiry = (q1.1, bis (fun i => decide ((((a0, x0) :: es0).map fun q => -q.1).getD i 0 < -(now - expiry))) (v0 :: vs0).length 0 (v0 :: vs0).length) := by
        unfold sGmw
        rw [hk]
        simp only [List.length_cons, Nat.succ_ne_zero, if_false]
        simp only [List.length_cons] at hq1 hlvs
        rw [← hlvs, List.getD, hq1]
        rfl
      rw [er] at ret
      rcases hlam with rfl | ⟨c', oc, cvs, ct, rfl, hc1, hc2, hc3⟩
      · k_steps
        rotate_left
        · (refine ⟨?_⟩; refine' hLam p loose mg mb _ _ _ _ _ _ _ _ _ _ _ _ lg (X.keeps (Fr.keep ?F)) (T.keeps (Fr.keep ?F2)) (news_at ?N ?m) ?cr (.cons hent0 hents0) (fun q hq => Fr.keep ?F3 _ _ (hlg q hq)); (case F => k_asm); (case F2 => k_asm); (case F3 => k_asm); (case N => k_asm); (case m => k_mem); (case cr => exact ⟨_, _, _, _, rfl, news_at (by k_asm) (List.Mem.tail _ (List.Mem.head _)), by assumption, by assumption⟩))
        · (refine' ret _ _ _ _ _ _ (Fr.keep ?F) ?a ?b ?c ?d ?or ?e ?f; (case F => k_asm); (case a => exact news_at (by k_asm) (by k_mem)); (case b => exact news_at (by k_asm) (by k_mem)); (case c => exact news_at (by k_asm) (by k_mem)); (case d => exact news_at (by k_asm) (by k_mem)); (case or => (refine' Or.inr ⟨_, _, _, _, rfl, ?x, news_at ?nn (List.Mem.tail _ (List.Mem.tail _ (List.Mem.head _))), ?y1, ?y2⟩; (case nn => k_asm); (case x => (refine' gone4 hg ?x1 ?x2 ?x3; (case x1 => k_asm); (case x2 => exact List.Mem.tail _ (List.Mem.tail _ (List.Mem.head _))); (case x3 => walk_at "MINE om"))); (case y1 => assumption); (case y2 => assumption))); (case e => (refine' gone4 hg ?x ?y ?z; (case x => k_asm); (case y => exact List.Mem.head _); (case z => walk_at "MINE om"))); (case f => exact News.get (by assumption) (List.Mem.head _)))
      · k_steps
        k_here
        refine' bis_use ?C ?ks ?F ?N ?X ?T ?l ?f ?d ?key ?go
        (case C => assumption); (case ks => assumption); (case F => k_asm); (case N => k_asm); (case X => k_asm); (case T => k_asm); (case l => walk_at "MINE get"); (case f => (refine' fnAt_news ?a ?b; (case a => k_asm); (case b => k_mem))); (case d => walk_at "MINE room")
        (case key => (refine ⟨?_⟩; refine' hLam p loose mg mb _ _ _ _ _ _ _ _ _ _ _ _ lg (X.keeps (Fr.keep ?F)) (T.keeps (Fr.keep ?F2)) (news_at ?N ?m) ?cr (.cons hent0 hents0) (fun q hq => Fr.keep ?F3 _ _ (hlg q hq)); (case F => k_asm); (case F2 => k_asm); (case F3 => k_asm); (case N => k_asm); (case m => k_mem); (case cr => exact ⟨_, _, _, _, rfl, Fr.keep (by k_asm) _ _ hc1, hc2, hc3⟩)))
        intro h9 tk9 t9 F9 N9
        k_steps
        (refine' ret _ _ _ _ _ _ (Fr.keep ?F) ?a ?b ?c ?d ?or ?e ?f; (case F => k_asm); (case a => exact news_at (by k_asm) (by k_mem)); (case b => exact news_at (by k_asm) (by k_mem)); (case c => exact news_at (by k_asm) (by k_mem)); (case d => exact news_at (by k_asm) (by k_mem)); (case or => exact Or.inl rfl); (case e => (refine' gone4 hg ?x ?y ?z; (case x => k_asm); (case y => exact List.Mem.head _); (case z => walk_at "MINE om"))); (case f => exact News.get (by assumption) (List.Mem.head _)))

theorem reg_CExpE : True := by
  k_with_none
  k_with "MINE pj" => (first | with_reducible assumption | exact an0 (by with_reducible assumption) | exact an1 (by with_reducible assumption) | exact an2 (by with_reducible assumption) | exact an3 (by with_reducible assumption) | exact an4 (by with_reducible assumption) | exact an5 (by with_reducible assumption) | exact an6 (by with_reducible assumption) | exact an7 (by with_reducible assumption) | exact an8 (by with_reducible assumption) | exact an9 (by with_reducible assumption) | exact bn1 (by with_reducible assumption) | exact bn2 (by with_reducible assumption) | exact bn3 (by with_reducible assumption) | exact bn4 (by with_reducible assumption) | exact bn5 (by with_reducible assumption) | exact bn6 (by with_reducible assumption) | exact bn7 (by with_reducible assumption) | exact bn8 (by with_reducible assumption))
  k_with "MINE lt" => (first | walk_at "MINE pj" | (with_reducible refine Nat.lt_trans ?_ (by with_reducible assumption); walk_at "MINE lt"))
  k_with "MINE ne" => (with_reducible refine neN ?_; (try dsimp only); first | with_reducible assumption | (refine Ne.symm ?_; with_reducible assumption) | (refine Nat.ne_of_lt ?_; with_reducible assumption) | (refine Nat.ne_of_gt ?_; with_reducible assumption) | (simp only [*, ne_eq, not_false_eq_true]; done) | (refine Ne.symm ?_; (simp only [*, ne_eq, not_false_eq_true]; done)) | (refine Nat.ne_of_lt ?_; (simp only [*]; done)) | (refine Nat.ne_of_gt ?_; (simp only [*]; done)) | assumption | decide | (refine Nat.ne_of_gt ?_; walk_at "MINE lt") | (refine Nat.ne_of_lt ?_; walk_at "MINE lt") | lia | omega)
  k_with "MINE nes" => (repeat' (first | (refine And.intro ?_ ?_) | (with_reducible refine neN ?_; walk_at "MINE ne")))
  k_with "MINE om" => (first | with_reducible assumption | exact Nat.le_of_ble_eq_true rfl | exact an0 (by with_reducible assumption) | exact bn1 (by with_reducible assumption) | exact an1 (by with_reducible assumption) | exact Nat.lt_of_le_of_lt (Nat.le_add_right _ _) (by with_reducible assumption) | exact Int.lt_trans (by with_reducible assumption) (by decide) | exact Int.lt_trans (bn1 (by with_reducible assumption)) (by decide) | exact Int.lt_of_lt_of_le (by decide) (by with_reducible assumption) | exact Int.lt_of_lt_of_le (by decide) (an0 (by with_reducible assumption)) | exact Nat.le_trans (by with_reducible assumption) (by decide) | exact Int.le_of_lt (by with_reducible assumption) | exact Int.le_trans (by with_reducible assumption) (by decide) | exact Int.lt_of_le_of_lt (by with_reducible assumption) (by decide) | decide | (walk_at "MINE nes"; done) | lia | omega)
  k_with "getMethod ref" => (k_here; k_dflt (refine' dMethI ?N_0 ?m_0 ?d_0 ?i_0 ?_; (case N_0 => k_asm); (case m_0 => k_mem); (case d_0 => k_asm); (case i_0 => exact rfl); k_whole))
  k_with "call builtin:dict.get" => (k_here; k_dflt (refine' dGetI ?N_1 ?m_1 ?d_1 ?lo_1 ?_; (case N_1 => k_asm); (case m_1 => k_mem); (case d_1 => k_asm); (case lo_1 => k_asm); k_whole; intro t'K))
  k_with "call builtin:dict.pop" => (k_here; k_dflt (refine' dPopI ?F_2 ?N_2 ?U_2 ?d_2 ?lo_2 ?z_2 ?_; (case F_2 => k_asm); (case N_2 => k_asm); (case U_2 => k_updF); (case d_2 => k_asm); (case lo_2 => k_asm); (case z_2 => walk_at "MINE om"); k_whole; intro h'K o'K v'K F'K N'K hd'K; (try dsimp only at N'K); (try k_sweep)))
  k_with "getMethod ref" => (k_here; k_dflt (refine' dMethV ?N_3 ?m_3 ?d_3 ?i_3 ?_; (case N_3 => k_asm); (case m_3 => k_mem); (case d_3 => k_asm); (case i_3 => exact rfl); k_whole))
  k_with "call builtin:dict.pop" => (k_here; k_dflt (refine' dPopV ?F_4 ?N_4 ?U_4 ?d_4 ?lo_4 ?z_4 ?_; (case F_4 => k_asm); (case N_4 => k_asm); (case U_4 => k_updF); (case d_4 => k_asm); (case lo_4 => k_asm); (case z_4 => walk_at "MINE om"); k_whole; intro h'K o'K v'K F'K N'K hd'K; (try dsimp only at N'K); (try k_sweep)))
  k_with "setItem ref str" => (k_here; k_dflt (refine' dSetI ?F_5 ?N_5 ?U_5 ?d_5 ?z_5 ?_; (case F_5 => k_asm); (case N_5 => k_asm); (case U_5 => k_updF); (case d_5 => k_asm); (case z_5 => walk_at "MINE om"); k_whole; intro h'K o'K F'K N'K hd'K; (try dsimp only at N'K); (try k_sweep)))
  k_with "subscriptTail" => (k_here; (with_reducible show wpAny _ _ (subscriptTail _ _ (Value.ref _) (Value.str _ _)) _ _ _); k_dflt (refine' dTailI ?N_6 ?m_6 ?d_6 ?_; (case N_6 => k_asm); (case m_6 => k_mem); (case d_6 => k_asm); k_whole))
  k_with "getItem ref str" => (k_here; k_dflt (refine' dItemI ?N_7 ?m_7 ?d_7 ?v_7 ?_; (case N_7 => k_asm); (case m_7 => k_mem); (case d_7 => k_asm); (case v_7 => first | k_asm | exact if_pos rfl); k_whole; intro t'K))
  k_with "getAttr ref" => (k_here; k_dflt (refine' getOwnG ?k1_8 ?k2_8 ?i1_8 ?i2_8 ?k4_8 ?k5_8 ?k6_8 ?k7_8 ?k8_8 ?k9_8 ?_; (case k1_8 => k_asm); (case k2_8 => k_asm); (case i1_8 => k_asm); (case i2_8 => k_asm); (case k4_8 => k_is); (case k5_8 => k_is); (case k6_8 => k_is); (case k7_8 => k_is); (case k8_8 => k_get); (case k9_8 => k_handed); k_whole))
  k_with "getMethod ref" => (k_here; k_dflt (refine' methG ?k1_9 ?k2_9 ?i1_9 ?i2_9 ?k4_9 ?k5_9 ?k6_9 ?k7_9 ?_; (case k1_9 => k_asm); (case k2_9 => k_asm); (case i1_9 => k_asm); (case i2_9 => k_asm); (case k4_9 => k_is); (case k5_9 => k_is); (case k6_9 => k_is); (case k7_9 => k_get); k_whole))
  k_with "getMethod ref" => (k_here; k_dflt (refine' kmuOwnG ?k1_10 ?k2_10 ?i1_10 ?i2_10 ?k4_10 ?k5_10 ?_; (case k1_10 => k_asm); (case k2_10 => k_asm); (case i1_10 => k_asm); (case i2_10 => k_asm); (case k4_10 => k_is); (case k5_10 => k_is); k_whole))
  k_with "callWith ref" => (k_here; (with_reducible show wpAny _ _ (callWith _ (Value.ref _) [] (backTo _ (starEach [] _)) []) _ _ _); k_dflt (refine' callFn0 ?k1_11 ?k2_11 ?_; (case k1_11 => k_asm); (case k2_11 => k_asm); k_whole))
  k_with "callWith ref" => (k_here; (with_reducible show wpAny _ _ (callWith _ (Value.ref _) _ (backTo _ (starEach (_ :: _) _)) []) _ _ _); k_dflt (first | (refine' callWith_K ?k1_12 ?k2_12 ?_; (case k1_12 => k_asm); (case k2_12 => k_is); k_whole) | (refine' callWith_M ?k1_12 ?k2_12 ?k3_12 ?k4_12 ?_; (case k1_12 => k_asm); (case k2_12 => k_asm); (case k3_12 => k_mem); (case k4_12 => k_is); k_whole)))
  k_with "MINE room" => (first | assumption | exact ArOk.down (by assumption) (by walk_at "MINE om"))
  k_with "call ref" => (k_here; k_dflt (refine' clk_use ?C_14 ?F_14 ?N_14 ?d_14 ?_; (case C_14 => k_asm); (case F_14 => k_asm); (case N_14 => k_asm); (case d_14 => walk_at "MINE room"); k_whole; intro h'K tk'K t'K F'K N'K; (try k_sweep)))
  k_with "call ref" => (k_here; (with_reducible show wpAny _ _ (call (Value.ref 616) _) _ _ _); k_dflt (refine' get_use ?C_15 ?ok_15 ?F_15 ?N_15 ?ms_15 ?me_15 ?mv_15 ?U1_15 ?U2_15 ?U3_15 ?X_15 ?T_15 ?I_15 ?hS_15 ?hE_15 ?hc_15 ?hd_15 ?_; (case C_15 => k_asm); (case ok_15 => k_asm); (case F_15 => k_asm); (case N_15 => k_asm); (case ms_15 => k_mem); (case me_15 => k_mem); (case mv_15 => k_mem); (case U1_15 => k_updF); (case U2_15 => (intro xK; k_updF)); (case U3_15 => (intro xK yK; k_updF)); (case X_15 => k_asm); (case T_15 => k_asm); (case I_15 => k_asm); (case hS_15 => k_asm); (case hE_15 => k_asm); (case hc_15 => walk_at "MINE om"); (case hd_15 => walk_at "MINE room"); k_whole; intro h'K tk'K t'K os'K oe'K F'K N'K hS'K hE'K; (try dsimp only at N'K); (try k_sweep)))
  k_with "MINE enter" => (
  (case ho => k_is); (case hcd => k_is); (case hroom => walk_at "MINE om"); (case hbind => first | exact BindsTo.of_eq rfl | exact binds_K (by k_in) rfl (by k_is) rfl rfl rfl);
  (case c5 => decide); (case hloc => exact locs rfl); (case c2 => exact rfl); (case c3 => exact rfl); (case c4 => exact rfl))
  k_with "MINE exit" => ((case F => k_asm); (case N => k_asm); (case a => k_mem); (case b => k_mem); (case c => k_mem))
  k_with "formatField int" => (k_here; (with_reducible show wpAny _ _ (formatField (Value.int _ _) _) _ _ _); k_dflt (refine' fmtI ?a_18 ?b_18 ?_; (case a_18 => walk_at "MINE om"); (case b_18 => walk_at "MINE om"); k_whole; intro hy'K t'K))
  k_with "And" => ((with_reducible show PySem.Str.length (_ ++ _) ≤ sizeLine ∧ wpAny _ _ (joinParts _ _) _ _ _); refine ⟨?a_19, ?_⟩; (case a_19 => (simp only [Str.length_append, Str.empty_append, slk_one, sizeLine_eq]; walk_at "MINE om")))
  k_with "getMethod ref" => (k_here; k_dflt (refine' kmuCmG ?k1_20 ?k2_20 ?k3_20 ?i1_20 ?i2_20 ?k5_20 ?k6_20 ?k7_20 ?k8_20 ?k9_20 ?k10_20 ?k11_20 ?k12_20 ?k13_20 ?_; (case k1_20 => k_asm); (case k2_20 => k_asm); (case k3_20 => k_asm); (case i1_20 => k_asm); (case i2_20 => k_asm); (case k5_20 => k_is); (case k6_20 => k_is); (case k7_20 => k_is); (case k8_20 => k_is); (case k9_20 => k_is); (case k10_20 => k_is); (case k11_20 => decide +kernel); (case k12_20 => k_get); (case k13_20 => k_is); k_whole; intro q'K h'K F'K N'K l1K; (try k_lt l1K); (try k_sweep)))
  k_with "call ref" => (k_here; k_dflt (refine' keys_use ?C_21 ?F_21 ?N_21 ?q_21 ?X_21 ?T_21 ?h0_21 ?h1_21 ?h2_21 ?hk_21 ?hd_21 ?_; (case C_21 => k_asm); (case F_21 => k_asm); (case N_21 => k_asm); (case q_21 => k_mem); (case X_21 => k_asm); (case T_21 => k_asm); (case h0_21 => walk_at "MINE om"); (case h1_21 => walk_at "MINE om"); (case h2_21 => walk_at "MINE om"); (case hk_21 => assumption); (case hd_21 => walk_at "MINE room"); k_whole; intro h'K tk'K tp'K u1K u2K F'K N'K l1K; (try simp only [List.forall_mem_cons, List.not_mem_nil, false_implies, implies_true, and_true] at l1K); (try k_sweep)))
  k_with "call ref" => (k_here; (with_reducible show wpAny _ _ (call (Value.ref 660) _) _ _ _); k_dflt (refine' info_use ?C_22 ?ok_22 ?F_22 ?N_22 ?ms_22 ?me_22 ?mv_22 ?U1_22 ?U2_22 ?U3_22 ?X_22 ?T_22 ?I_22 ?hV_22 ?hS_22 ?hE_22 ?hc_22 ?h0_22 ?hd_22 ?_; (case C_22 => k_asm); (case ok_22 => k_asm); (case F_22 => k_asm); (case N_22 => k_asm); (case ms_22 => k_mem); (case me_22 => k_mem); (case mv_22 => k_mem); (case U1_22 => k_updF); (case U2_22 => (intro xK; k_updF)); (case U3_22 => (intro xK yK; k_updF)); (case X_22 => k_asm); (case T_22 => k_asm); (case I_22 => k_asm); (case hV_22 => k_asm); (case hS_22 => k_asm); (case hE_22 => k_asm); (case hc_22 => walk_at "MINE om"); (case h0_22 => walk_at "MINE om"); (case hd_22 => walk_at "MINE room"); k_whole; intro h'K tk'K os'K oe'K tp'K u1K u2K u3K u4K F'K N'K l1K hS'K hE'K; (try simp only [List.forall_mem_cons, List.not_mem_nil, false_implies, implies_true, and_true] at l1K); (try dsimp only at N'K); (try k_sweep)))
  k_with "call ref" => (k_here; (with_reducible show wpAny _ _ (call (Value.ref 601) _ _) _ _ _); k_dflt (refine' incr_use ?C_23 ?ok_23 ?F_23 ?N_23 ?ms_23 ?me_23 ?mv_23 ?U1_23 ?U2_23 ?U3_23 ?X_23 ?T_23 ?I_23 ?hS_23 ?hE_23 ?hc_23 ?hd_23 ?_; (case C_23 => k_asm); (case ok_23 => k_asm); (case F_23 => k_asm); (case N_23 => k_asm); (case ms_23 => k_mem); (case me_23 => k_mem); (case mv_23 => k_mem); (case U1_23 => k_updF); (case U2_23 => (intro xK; k_updF)); (case U3_23 => (intro xK yK; k_updF)); (case X_23 => k_asm); (case T_23 => k_asm); (case I_23 => k_asm); (case hS_23 => k_asm); (case hE_23 => k_asm); (case hc_23 => walk_at "MINE om"); (case hd_23 => walk_at "MINE room"); k_whole; intro h'K tk'K t'K os'K oe'K F'K N'K hS'K hE'K; (try dsimp only at N'K); (try k_sweep)))
  k_with "call ref" => (k_here; (with_reducible show wpAny _ _ (call (Value.ref 623) _) _ _ _); k_dflt (refine' clear_use ?C_24 ?ok_24 ?F_24 ?N_24 ?ms_24 ?me_24 ?mv_24 ?U1_24 ?U2_24 ?U3_24 ?X_24 ?T_24 ?I_24 ?hS_24 ?hE_24 ?hV_24 ?hc_24 ?hd_24 ?_; (case C_24 => k_asm); (case ok_24 => k_asm); (case F_24 => k_asm); (case N_24 => k_asm); (case ms_24 => k_mem); (case me_24 => k_mem); (case mv_24 => k_mem); (case U1_24 => k_updF); (case U2_24 => (intro xK; k_updF)); (case U3_24 => (intro xK yK; k_updF)); (case X_24 => k_asm); (case T_24 => k_asm); (case I_24 => k_asm); (case hS_24 => k_asm); (case hE_24 => k_asm); (case hV_24 => k_asm); (case hc_24 => walk_at "MINE om"); (case hd_24 => walk_at "MINE room"); k_whole; intro h'K tk'K os'K oe'K ov'K F'K N'K hS'K hE'K hV'K; (try dsimp only at N'K); (try k_sweep)))
  k_with "assign Tuple" => (k_here; (with_reducible show wpAny _ _ (assign (Expr.Tuple _ _ _) _ (Value.ref _)) _ _ _); k_dflt (refine' unpackN_ ?k1_25 ?k2_25 ?k3_25 ?k4_25 ?k5_25 ?k6_25 ?_; (case k1_25 => k_asm); (case k2_25 => k_asm); (case k3_25 => kun_tup); (case k4_25 => assumption); (case k5_25 => exact rfl); (case k6_25 => exact rfl); k_whole); intro h'K F'K N'K; (try k_sweep))
  k_with "binaryOp Mult int int" => (k_here; (first | refine PySem.mul_int ?_ (hm := IntMulOk.of_left (intBits_le_64 (by walk_at "MINE om") (by walk_at "MINE om"))) | refine PySem.mul_int ?_ (hm := IntMulOk.of_right (intBits_le_64 (by walk_at "MINE om") (by walk_at "MINE om")))))
  k_with "MINE line" => first | (simp only [sizeLine_eq, List.length_replicate]; walk_at "MINE om") | exact Nat.le_trans (stored_length_le _ _ _) (by rw [sizeLine_eq]; walk_at "MINE om")
  k_with "getMethod ref" => (k_here; k_dflt (refine' dMeth ?N_28 ?m_28 ?d_28 ?i_28 ?_; (case N_28 => k_asm); (case m_28 => k_mem); (case d_28 => k_asm); (case i_28 => exact rfl); k_whole))
  k_with "call builtin:dict.setdefault" => (k_here; k_dflt (refine' dSdThere ?N_29 ?m_29 ?d_29 ?lo_29 ?l_29 ?z_29 ?_; (case N_29 => k_asm); (case m_29 => k_mem); (case d_29 => k_asm); (case lo_29 => k_asm); (case l_29 => assumption); (case z_29 => walk_at "MINE line"); k_whole))
  k_with "call builtin:dict.setdefault" => (k_here; k_dflt (refine' dSdNew ?F_30 ?N_30 ?U_30 ?d_30 ?lo_30 ?l_30 ?z_30 ?_; (case F_30 => k_asm); (case N_30 => k_asm); (case U_30 => k_updF); (case d_30 => k_asm); (case lo_30 => k_asm); (case l_30 => assumption); (case z_30 => walk_at "MINE line"); k_whole; intro h'K o'K F'K N'K hd'K hv'K; (try dsimp only at N'K); (try k_sweep)))
  k_with "subscriptTail" => (k_here; (with_reducible show wpAny _ _ (subscriptTail _ _ (Value.ref _) (Value.str _ _)) _ _ _); k_dflt (refine' dTail ?N_31 ?m_31 ?d_31 ?_; (case N_31 => k_asm); (case m_31 => k_mem); (case d_31 => k_asm); k_whole))
  k_with "getItem ref str" => (k_here; k_dflt (refine' dItem ?N_32 ?m_32 ?d_32 ?v_32 ?_; (case N_32 => k_asm); (case m_32 => k_mem); (case d_32 => k_asm); (case v_32 => assumption); k_whole))
  k_with "setItem ref str" => (k_here; k_dflt (refine' dSet ?F_33 ?N_33 ?U_33 ?d_33 ?_ ?z_33; (case F_33 => k_asm); (case N_33 => k_asm); (case U_33 => k_updF); (case d_33 => k_asm); (case z_33 => walk_at "MINE line"); k_whole; intro h'K o'K F'K N'K hd'K; (try dsimp only at N'K); (try k_sweep)))
  k_with "MINE get" => first | (refine' Fr.keep ?fr_34 _ _ ?gt_34; (case fr_34 => k_asm); (case gt_34 => assumption)) | (refine' Fr.keep ?fr_34 _ _ (Below.stays ?kb_34 _ _ ?bt_34); (case fr_34 => k_asm); (case kb_34 => assumption); (case bt_34 => assumption)) | (refine' news_at ?nn_34 ?mm_34; (case nn_34 => k_asm); (case mm_34 => k_mem))
  k_with "subscriptTail" => (k_here; (with_reducible show wpAny _ _ (subscriptTail _ _ (Value.ref _) (Value.int _ _)) _ _ _); k_dflt (refine' lst_in ?l_35 ?a_35 ?b_35 ?v_35 ?_; (case l_35 => walk_at "MINE get"); (case a_35 => walk_at "MINE om"); (case b_35 => walk_at "MINE om"); (case v_35 => assumption); k_whole))
  k_with "subscriptTail" => (k_here; (with_reducible show wpAny _ _ (subscriptTail _ _ (Value.ref _) (Value.int _ _)) _ _ _); k_dflt (refine' lst_out ?hA_36 ?l_36 ?a_36 ?b_36 ?v_36 ?_; (case hA_36 => assumption); (case l_36 => walk_at "MINE get"); (case a_36 => walk_at "MINE om"); (case b_36 => walk_at "MINE om"); (case v_36 => first | assumption | exact rfl); k_whole; intro h'K tk'K e'K hx'K))
  k_with "subscriptTail" => (k_here; (with_reducible show wpAny _ _ (subscriptTail _ _ (Value.ref _) (Value.int _ _)) _ _ _); k_dflt (refine' lst_out0 ?hA_37 ?N_37 ?m_37 ?a_37 ?b_37 ?_; (case hA_37 => assumption); (case N_37 => k_asm); (case m_37 => k_mem); (case a_37 => walk_at "MINE om"); (case b_37 => walk_at "MINE om"); k_whole; intro h'K tk'K e'K hx'K))
  k_with "noteFrame ref" => (k_here; refine' caught_acq ?K_38 ?hx_38 ?F_38 ?N_38 ?XB_38 ?TB_38 ?IB_38 ?fc_38 ?ex_38 PyProof.Rows.Boot.«IndexError» ?hn_38 PySem.F.isExc_IndexError PySem.F.notTuple_IndexError ?hs_38 ?_; (case K_38 => assumption); (case hx_38 => assumption); (case F_38 => k_asm); (case N_38 => k_asm); (case XB_38 => assumption); (case TB_38 => assumption); (case IB_38 => assumption); (case fc_38 => assumption); (case ex_38 => k_is); (case hn_38 => decide); (case hs_38 => exact rfl); intro h'K g'K T'K F'K N'K K'K X'K P'K I'K i1'K i2'K fc'K; (try k_sweep))
  k_with "call ref" => (k_here; (with_reducible show wpAny _ _ (call (Value.ref 568) _) _ _ _); k_dflt (refine' (by assumption : EntryC _ _ _) _ _ _ _ _ _ _ _ _ _ _ _ _ _ _ _ ?F_39 ?N_39 ?X_39 ?T_39 ?n0_39 ?n1_39 ?e0_39 ?e1_39 ?d_39 ?_; (case F_39 => k_asm); (case N_39 => k_asm); (case X_39 => k_asm); (case T_39 => k_asm); (case n0_39 => walk_at "MINE om"); (case n1_39 => walk_at "MINE om"); (case e0_39 => walk_at "MINE om"); (case e1_39 => walk_at "MINE om"); (case d_39 => walk_at "MINE room"); k_whole; intro h'K tk'K x'K dx'K u1K u2K u3K u4K F'K N'K l1K l2K l3K; (try simp only [List.forall_mem_cons, List.not_mem_nil, false_implies, implies_true, and_true] at l3K); (try simp only [List.forall_mem_cons, List.not_mem_nil, false_implies, implies_true, and_true] at l1K); (try k_sweep)))
  k_with "binaryOp Mult ref int" => (k_here; (with_reducible show wpAny _ _ (binaryOp Operator.Mult (Value.ref _) (Value.int _ _)) _ _ _); k_dflt (refine' lst_rep ?F_40 ?N_40 ?m_40 ?a_40 ?b_40 ?_; (case F_40 => k_asm); (case N_40 => k_asm); (case m_40 => k_mem); (case a_40 => walk_at "MINE om"); (case b_40 => walk_at "MINE om"); k_whole; intro D'K h'K F'K N'K l1K; (try k_lt l1K); (try k_sweep)))
  k_with "binaryOp Add ref ref" => (k_here; (with_reducible show wpAny _ _ (binaryOp Operator.Add (Value.ref _) (Value.ref _)) _ _ _); k_dflt (refine' lst_cat ?F_41 ?N_41 ?a_41 ?b_41 ?z_41 ?_; (case F_41 => k_asm); (case N_41 => k_asm); (case a_41 => walk_at "MINE get"); (case b_41 => walk_at "MINE get"); (case z_41 => first | walk_at "MINE line" | (show (List.replicate _ _).length + 0 ≤ _; walk_at "MINE line")); k_whole; intro D'K h'K F'K N'K l1K; (try k_lt l1K); (try k_sweep)))
  k_with "binaryOp Add ref ref" => (k_here; (with_reducible show wpAny _ _ (binaryOp Operator.Add (Value.ref _) (Value.ref _)) _ _ _); k_dflt (refine' lst_cat0 ?F_42 ?N_42 ?a_42 ?b_42 ?z_42 ?_; (case F_42 => k_asm); (case N_42 => k_asm); (case a_42 => walk_at "MINE get"); (case b_42 => k_mem); (case z_42 => walk_at "MINE line"); k_whole; intro D'K h'K F'K N'K l1K; (try k_lt l1K); (try k_sweep)))
  k_with "eval Name" => (k_here; k_dflt (refine' nameX_L ?F_43 ?v_43 ?_ ?a_43 ?b_43; (case F_43 => k_asm); (case a_43 => rfl); (case b_43 => rfl); (case v_43 => assumption); k_whole))
  k_with "callWith ref" => (k_here; (with_reducible show wpAny _ _ (callWith _ (Value.ref _) _ (backTo _ (starEach (_ :: _) _)) []) _ _ _); k_dflt (refine' callFn1 ?_; k_whole))
  k_with "And" => ((with_reducible show FnAt _ _ ∧ _); refine ⟨?a_45, ?_⟩; (case a_45 => (refine' FnAt.keeps ?x_45 ?k_45; (case x_45 => assumption); (case k_45 => exact Fr.keep (by k_asm)))))
  k_with "call ref" => (k_here; k_dflt (refine' key_use ?C_46 ?v_46 ?k_46 ?F_46 ?N_46 ?d_46 ?_; (case C_46 => assumption); (case F_46 => k_asm); (case N_46 => k_asm); (case v_46 => assumption); (case k_46 => assumption); (case d_46 => walk_at "MINE room"); k_whole; intro h'K tk'K t'K F'K N'K; (try k_sweep)))
  k_with "call builtin:len" => (k_here; (with_reducible show wpAny _ _ (call (Value.builtin "len") [Value.ref _]) _ _ _); k_dflt (refine' len_list ?l_47 ?z_47 ?_; (case l_47 => (refine' lst_at ?e_47; (case e_47 => walk_at "MINE get"))); (case z_47 => (rw [List.size_toArray]; walk_at "MINE om")); k_whole))
  k_with "call builtin:dict.get" => (k_here; k_dflt (first | (refine' dGetS ?N_48 ?m_48 ?d_48 ?lo_48 ?v_48 ?_; (case N_48 => k_asm); (case m_48 => k_mem); (case d_48 => k_asm); (case lo_48 => k_asm); (case v_48 => assumption); k_whole) | (refine' dGetN ?N_48 ?m_48 ?d_48 ?lo_48 ?v_48 ?_; (case N_48 => k_asm); (case m_48 => k_mem); (case d_48 => k_asm); (case lo_48 => k_asm); (case v_48 => assumption); k_whole)))
  k_with "truthy ref" => (k_here; k_dflt (first | (refine' truthy0 ?l_49 ?_; (case l_49 => walk_at "MINE get"); k_whole) | (refine' truthy1 ?l_49 ?z_49 ?_; (case l_49 => walk_at "MINE get"); (case z_49 => assumption); k_whole)))
  k_with "call ref" => (k_here; (with_reducible show wpAny _ _ (call (Value.ref 551) _ _) _ _ _); refine' bis_use ?C_50 ?ks_50 ?F_50 ?N_50 ?X_50 ?T_50 ?l_50 ?f_50 ?d_50 ?key_50 ?go_50; (case C_50 => assumption); (case ks_50 => assumption); (case F_50 => k_asm); (case N_50 => k_asm); (case X_50 => k_asm); (case T_50 => k_asm); (case l_50 => walk_at "MINE get"); (case f_50 => (refine' fnAt_news ?a_50 ?b_50; (case a_50 => k_asm); (case b_50 => k_mem))); (case d_50 => walk_at "MINE room"); (case' go_50 => (intro h'K tk'K t'K F'K N'K; (try k_sweep))))
  k_with "subscriptTail" => (k_here; (with_reducible show wpAny _ _ (subscriptTail _ _ (Value.ref _) (Value.int _ _)) _ _ _); k_dflt (refine' lst_m1 ?l_51 ?r_51 ?n_51 ?z_51 ?v_51 ?_; (case l_51 => walk_at "MINE get"); (case r_51 => exact (bis_le _ _ _ _ (Nat.zero_le _)).2); (case n_51 => exact Nat.succ_pos _); (case z_51 => assumption); (case v_51 => assumption); k_whole))
  k_with "exec For" => (k_here; refine' for_F ?F_52 ?x_52 ?p_52 ?_ ?s_52 ?E_52; (case F_52 => k_asm); (case x_52 => rfl); (case p_52 => rfl); (case s_52 => (intro _; rfl)); (case E_52 => passes_own))
  k_with "call builtin:dict.keys" => (k_here; refine' view_keys ?F_53 ?N_53 ?m_53 ?d_53 ?lo_53 ?_; (case F_53 => k_asm); (case N_53 => k_asm); (case m_53 => k_mem); (case d_53 => k_asm); (case lo_53 => k_asm); k_whole; intro D'K h'K F'K N'K l1K; (try k_lt l1K))
  k_with "call type:list" => (k_here; refine' list_view ?hh_54 ?F_54 ?N_54 ?v_54 ?m_54 ?d_54 ?z_54 ?_; (case hh_54 => assumption); (case F_54 => k_asm); (case N_54 => k_asm); (case v_54 => k_mem); (case m_54 => k_mem); (case d_54 => k_asm); (case z_54 => walk_at "MINE om"); k_whole; intro D'K c'K h'K tk'K vs'K F'K N'K l1K hk'K; (try k_lt l1K))
  k_with "pyIter ref" => refine Hold.out ?_
  k_with "subscriptTail" => (k_here; (with_reducible show wpAny _ _ (subscriptTail _ (PySem.Expr.Slice _ _ _ _) (Value.ref _) (Value.ref _)) _ _ _); refine' slice_upto ?F_56 ?N_56 ?l_56 ?r_56 ?z_56 ?_ ?s_56 ?t_56; (case F_56 => k_asm); (case N_56 => k_asm); (case l_56 => walk_at "MINE get"); (case r_56 => exact (bis_le _ _ _ _ (Nat.zero_le _)).2); (case z_56 => assumption); (case s_56 => with_unfolding_all rfl); (case t_56 => (intro _; with_unfolding_all rfl)); k_whole; intro D'K h'K F'K N'K l1K; (try k_lt l1K))
  k_with "eval Name" => (k_here; k_dflt (refine' nameX_L ?F_zn ?v_zn ?_ ?a_zn ?b_zn; (case F_zn => k_asm); (case a_zn => rfl); (case b_zn => rfl); (case v_zn => rfl); k_whole))
  k_with "MINE updF" => (refine' UpdF.head ?a; (case a => ((repeat (refine' List.forall_mem_cons.mpr ⟨?_, ?_⟩; (· k_ne))); first | assumption | exact fun _ h => nomatch h)))
  trivial

theorem c_expev (w : World) (hBis : BisC (Mine.kmake.heap_1 w.params) PySem.Challenge.pw_jo0040_02 w) (hLam : LamC (Mine.kmake.heap_1 w.params) PySem.Challenge.pw_jo0040_02 w "event" "expiry" Prod.snd) : ExpEvC (Mine.kmake.heap_1 w.params) PySem.Challenge.pw_jo0040_02 w := by
  have hfill : (PySem.Challenge.rw_jo0040_02 = PySem.Challenge.rw_jo0040_02) ∧ (Mine.kmake.heap_1 = Mine.kmake.heap_1) := by k_fill; exact ⟨rfl, rfl⟩
  clear hfill
  intro p loose mean mg mb S now O A s base outer σ c lg Q P hnow hcc hd ret
  obtain ⟨Z, KB, hs, he, hv, ht, ht5, D⟩ := id P
  obtain ⟨ok, o5, XB, TBp, C1, C2, IB, hlgb⟩ := id Z
  have TB := topRead_of TBp
  obtain ⟨n1, n2, n3, l1, l2, l3, b1⟩ := id ok
  obtain ⟨n4, n5⟩ := id o5
  have X : (Mine.kmake.heap_1 w.params).In (hideAll s.heap S.M) := XB.keeps KB.stays
  have T : TopRead p loose mg mb (hideAll s.heap S.M) := TB.keeps KB.stays
  have Tp : Top p loose mean mg mb (hideAll s.heap S.M) := TBp.keeps KB.stays
  have II : StI PySem.Challenge.pw_jo0040_02 w (hideAll s.heap S.M) S now := IB.keeps KB.stays
  have hroom' := hd.d
  have hh := hd.h
  have hu := hd.u
  have hSd := D.s
  have hEd := D.e
  obtain ⟨kvs, hdv, hl0, hr⟩ := D.v
  have hbd := D.b
  have hS0 := D.hc
  have hnd := keysNodup_of_isDictOf hdv
  refine' enter (Wl := S.M) (news := five S O) (binds := [("self", .ref S.st)]) X T P.own ?ho ?hcd ?hroom ?hbind ?hloc ?_ ?c2 ?c3 ?c4 ?c5
  (case ho => k_is); (case hcd => k_is); (case hroom => walk_at "MINE om"); (case hbind => exact BindsTo.of_eq rfl); (case c5 => decide); (case hloc => exact locs rfl); (case c2 => exact rfl); (case c3 => exact rfl); (case c4 => exact rfl)
  intro L' h₁ F N lt
  (try dsimp only [List.reverse, List.reverseAux] at F)
  clear hs he hv ht ht5 lt
  have CD2 := C2.keeps KB.stays
  generalize hg : hideAll s.heap S.M = g at *
  have i1 := II.i1
  have i2 := II.i2
  obtain ⟨fcc, fcd, fcf, fcs, hfc⟩ := II.fn
  have hnb := II.bnd
  (try k_fold)
  k_steps
  refine ⟨?_⟩
  (have t'K := trivial; have h'K := trivial; have o'K := trivial; have F'K := trivial; have N'K := trivial; have hd'K := trivial; have v'K := trivial; have tk'K := trivial; have oe'K := trivial; have yK := trivial; have hE'K := trivial; have hS'K := trivial; have xK := trivial; have os'K := trivial; have hy'K := trivial; have q'K := trivial; have l1K := trivial; have tp'K := trivial; have u2K := trivial; have u1K := trivial; have u3K := trivial; have u4K := trivial; have hV'K := trivial; have ov'K := trivial; have hv'K := trivial; have hx'K := trivial; have e'K := trivial; have K'K := trivial; have P'K := trivial; have i1'K := trivial; have X'K := trivial; have fc'K := trivial; have g'K := trivial; have T'K := trivial; have I'K := trivial; have i2'K := trivial; have l3K := trivial; have l2K := trivial; have dx'K := trivial; have x'K := trivial; have D'K := trivial; have c'K := trivial; have vs'K := trivial; have hk'K := trivial); rename_i D1 c1 h1' tk1 vs1 F1 N1 hk1 ll1
  have N1' : News g L' h1' ((640, O.t) :: (588, O.t5) :: (S.ds, O.s) :: (S.de, O.e) :: (S.dv, O.v) :: (D1, listOf vs1.toArray c1) :: []) := ncons (N1 _ (by simp)) (ncons (N1 _ (by simp)) (ncons (N1 _ (by simp)) (ncons (N1 _ (by simp)) (ncons (N1 _ (by simp)) (ncons (N1 _ (by simp)) fun _ h => nomatch h)))))
  (try dsimp only)
  refine for_own (l := D1) (vs := vs1) (c := c1) (J1 PySem.Challenge.pw_jo0040_02 w S lg O.t O.s O.e D1 vs1 c1 kvs σ.fv now c) hh F1 N1' ?hJl ?hj ?turn ?done
  case hJl =>
    intro i m n hJ
    obtain ⟨o5, ov, lgT, kvs', rfl, _⟩ := hJ.ex
    simp
  case hj => exact ⟨O.t5, O.v, [], kvs, rfl, rfl, D.t5, hdv, hl0, by rw [List.take_zero, List.map_nil, swpV_z]; exact hr, fun _ _ => rfl, fun _ h => nomatch h⟩
  case turn =>
    intro i v m₁ news₁ h2 tk2 I oI hv hJ hI F2 N2
    obtain ⟨o5', ov', lgT, kvs', rfl, hself, hlam5, hdv', hl', hr', hagree, hoff⟩ := hJ.ex
    obtain ⟨k, x, tk, hkx, rfl⟩ := hk1.at_ i v hv
    have hnd' := not_done hnd hkx
    have hval := valueAt_mem hnd hkx
    obtain ⟨es, v0, hfk, hv0, hEv⟩ : ∃ es v0, σ.fv k = some es ∧ valueAt kvs k = some v0 ∧ EvAt w lg v0 es := by
      rcases hr k with ⟨_, e⟩ | e
      · rw [hval] at e; cases e
      · exact e
    have hvk : valueAt kvs' k = some v0 := by rw [hagree k hnd', hv0]
    obtain ⟨l0, vs0, n0, rfl, hmem, hents⟩ := hEv
    have hl0g : g.get? l0 = some (lstO vs0 n0) := KB.stays _ _ (hlgb _ hmem)
    have hles := hbd.bv k es hfk
    have hlvs := hents.len
    simp only [List.forall_mem_cons] at hI
    obtain ⟨hI1, hI2, hI3, hI4, hI5, hI6, hI7⟩ := hI
    have hgl : ∀ h' mm, Fr g L' h' mm → ∀ q ∈ lg, h'.get? q.1 = some q.2 := fun h' mm Fh q hq => Fh.keep _ _ (KB.stays _ _ (hlgb q hq))
    have ht588 : ∀ p ∈ lgT, p.1 ≠ 588 := fun p hp e => (hoff p hp).1 (by rw [e]; simp)
    have htdv : ∀ p ∈ lgT, p.1 ≠ S.dv := fun p hp e => (hoff p hp).1 (by rw [e]; simp [Ids.W])
    have hDne : (@Ne Nat 640 D1) ∧ (@Ne Nat 588 D1) ∧ (@Ne Nat S.ds D1) ∧ (@Ne Nat S.de D1) ∧ (@Ne Nat S.dv D1) := by walk_at "MINE om"
    clear ret N1 N1' F1 hJ
    (try k_fold)
    cases hents with
    | nil =>
      k_steps
      (have t'K := trivial; have h'K := trivial; have o'K := trivial; have F'K := trivial; have N'K := trivial; have hd'K := trivial; have v'K := trivial; have tk'K := trivial; have oe'K := trivial; have yK := trivial; have hE'K := trivial; have hS'K := trivial; have xK := trivial; have os'K := trivial; have hy'K := trivial; have q'K := trivial; have l1K := trivial; have tp'K := trivial; have u2K := trivial; have u1K := trivial; have u3K := trivial; have u4K := trivial; have hV'K := trivial; have ov'K := trivial; have hv'K := trivial; have hx'K := trivial; have e'K := trivial; have K'K := trivial; have P'K := trivial; have i1'K := trivial; have X'K := trivial; have fc'K := trivial; have g'K := trivial; have T'K := trivial; have I'K := trivial; have i2'K := trivial; have l3K := trivial; have l2K := trivial; have dx'K := trivial; have x'K := trivial; have D'K := trivial; have c'K := trivial; have vs'K := trivial; have hk'K := trivial); rename_i hB Fz Nz tkq
      (refine' j1_next (add := []) Fz Nz ?mI ?e1 ?e2 ?e3 ?e4 ?e5 ?e6 (by walk_at "MINE om") hI7 (fun q hq => ⟨?mT, hoff q hq⟩) (fun _ h => nomatch h) hself hlam5 hdv' hl' (by rw [take_keys hkx, swpV_nil hfk]; exact hr') (agree_nil hkx hagree); (case mI => k_mem); (case e1 => k_mem); (case e2 => k_mem); (case e3 => k_mem); (case e4 => k_mem); (case e5 => k_mem); (case e6 => k_mem); (case mT => simp [hq]))
    | @cons vv0 vs0 a0 x0 es0 hent0 hents0 =>
      have hvz : (vv0 :: vs0).length ≤ 90000 := by walk_at "MINE om"
      have hKs : KsP (vv0 :: vs0) (((a0, x0) :: es0).map fun q => -q.2) := ⟨by rw [List.length_map]; exact hlvs, hvz⟩
      rcases hlam5 with rfl | ⟨c', oc, cvs, ct, rfl, hc1, hc2, hc3⟩
      · k_steps
        rotate_left
        · (refine ⟨?_⟩; refine' hLam p loose mg mb _ _ _ _ _ _ _ _ _ _ _ _ lg (X.keeps (Fr.keep ?F)) (T.keeps (Fr.keep ?F2)) (news_at ?N ?m) ?cr (.cons hent0 hents0) (fun q hq => hgl _ _ ?F3 q hq); (case F => k_asm); (case F2 => k_asm); (case F3 => k_asm); (case N => k_asm); (case m => k_mem); (case cr => exact ⟨_, _, _, _, rfl, news_at (by k_asm) (List.Mem.tail _ (List.Mem.head _)), by assumption, by assumption⟩))
        · (have t'K := trivial; have h'K := trivial; have o'K := trivial; have F'K := trivial; have N'K := trivial; have hd'K := trivial; have v'K := trivial; have tk'K := trivial; have oe'K := trivial; have yK := trivial; have hE'K := trivial; have hS'K := trivial; have xK := trivial; have os'K := trivial; have hy'K := trivial; have q'K := trivial; have l1K := trivial; have tp'K := trivial; have u2K := trivial; have u1K := trivial; have u3K := trivial; have u4K := trivial; have hV'K := trivial; have ov'K := trivial; have hv'K := trivial; have hx'K := trivial; have e'K := trivial; have K'K := trivial; have P'K := trivial; have i1'K := trivial; have X'K := trivial; have fc'K := trivial; have g'K := trivial; have T'K := trivial; have I'K := trivial; have i2'K := trivial; have l3K := trivial; have l2K := trivial; have dx'K := trivial; have x'K := trivial; have D'K := trivial; have c'K := trivial; have vs'K := trivial; have hk'K := trivial); rename_i ff cc occ vss tt ctt hh4 tkk1 dd1 dd2 ll1 ll2 hh3 tkk tt2 hh2 DD hA ll hB oB Fz Nz hdz
          have hln : (stored kvs' k (.ref DD)).length ≤ c := by rw [stored_there hvk]; exact hl'
          (refine' j1_next (add := [(DD, listOf (List.take (bis (fun i => decide ((((a0, x0) :: es0).map fun q => -q.2).getD i 0 < -now)) (vv0 :: vs0).length 0 (vv0 :: vs0).length) (vv0 :: vs0)).toArray 0), (cc, occ)]) Fz Nz ?mI ?e1 ?e2 ?e3 ?e4 ?e5 ?e6 (by walk_at "MINE om") hI7 (fun q hq => ⟨?mT, hoff q hq⟩) ?mA hself (.inr ⟨cc, occ, vss, tt, rfl, List.mem_append_left _ (List.mem_append_left _ (.tail _ (.head _))), dd1, dd2⟩) hdz hln (vrel_swp hr' hkx hfk (.cons hent0 hents0) (Nat.succ_ne_zero _) (.head _)) (agree_swp hkx hagree); (case mI => k_mem); (case e1 => k_mem); (case e2 => k_mem); (case e3 => k_mem); (case e4 => k_mem); (case e5 => k_mem); (case e6 => k_mem); (case mT => simp [hq]); (case mA => simp only [List.forall_mem_cons]; exact ⟨⟨by k_mem, ⟨not_M (by walk_at "MINE om"), by walk_at "MINE om"⟩, by walk_at "MINE om"⟩, ⟨by k_mem, ⟨not_M (by walk_at "MINE om"), by walk_at "MINE om"⟩, by walk_at "MINE om"⟩, fun _ h => nomatch h⟩))
      · k_steps
        k_here
        refine' bis_use ?C ?ks ?F ?N ?X ?T ?l ?f ?d ?key ?go
        (case C => assumption); (case ks => assumption); (case F => k_asm); (case N => k_asm); (case X => k_asm); (case T => k_asm); (case l => walk_at "MINE get"); (case f => (refine' fnAt_news ?a ?b; (case a => k_asm); (case b => k_mem))); (case d => walk_at "MINE room")
        (case key => (refine ⟨?_⟩; refine' hLam p loose mg mb _ _ _ _ _ _ _ _ _ _ _ _ lg (X.keeps (Fr.keep ?F)) (T.keeps (Fr.keep ?F2)) (news_at ?N ?m) ?cr (.cons hent0 hents0) (fun q hq => hgl _ _ ?F3 q hq); (case F => k_asm); (case F2 => k_asm); (case F3 => k_asm); (case N => k_asm); (case m => k_mem); (case cr => exact ⟨_, _, _, _, rfl, lg_get hc1 (fun q hq => ((by assumption : News g _ _ _) q (by simp [hq])).1) (hgl _ _ (by k_asm)), hc2, hc3⟩)))
        intro h9 tk9 t9 F9 N9
        k_steps
        (have t'K := trivial; have h'K := trivial; have o'K := trivial; have F'K := trivial; have N'K := trivial; have hd'K := trivial; have v'K := trivial; have tk'K := trivial; have oe'K := trivial; have yK := trivial; have hE'K := trivial; have hS'K := trivial; have xK := trivial; have os'K := trivial; have hy'K := trivial; have q'K := trivial; have l1K := trivial; have tp'K := trivial; have u2K := trivial; have u1K := trivial; have u3K := trivial; have u4K := trivial; have hV'K := trivial; have ov'K := trivial; have hv'K := trivial; have hx'K := trivial; have e'K := trivial; have K'K := trivial; have P'K := trivial; have i1'K := trivial; have X'K := trivial; have fc'K := trivial; have g'K := trivial; have T'K := trivial; have I'K := trivial; have i2'K := trivial; have l3K := trivial; have l2K := trivial; have dx'K := trivial; have x'K := trivial; have D'K := trivial; have c'K := trivial; have vs'K := trivial; have hk'K := trivial); rename_i DD hA ll hB oB Fz Nz hdz
        have hln : (stored kvs' k (.ref DD)).length ≤ c := by rw [stored_there hvk]; exact hl'
        (refine' j1_next (add := [(DD, listOf (List.take (bis (fun i => decide ((((a0, x0) :: es0).map fun q => -q.2).getD i 0 < -now)) (vv0 :: vs0).length 0 (vv0 :: vs0).length) (vv0 :: vs0)).toArray 0)]) Fz Nz ?mI ?e1 ?e2 ?e3 ?e4 ?e5 ?e6 (by walk_at "MINE om") hI7 (fun q hq => ⟨?mT, hoff q hq⟩) ?mA hself (.inr ⟨c', oc, cvs, ct, rfl, by simpa using Or.inr (List.mem_append.mp hc1), hc2, hc3⟩) hdz hln (vrel_swp hr' hkx hfk (.cons hent0 hents0) (Nat.succ_ne_zero _) (.head _)) (agree_swp hkx hagree); (case mI => k_mem); (case e1 => k_mem); (case e2 => k_mem); (case e3 => k_mem); (case e4 => k_mem); (case e5 => k_mem); (case e6 => k_mem); (case mT => simp [hq]); (case mA => simp only [List.forall_mem_cons]; exact ⟨⟨by k_mem, ⟨not_M (by walk_at "MINE om"), by walk_at "MINE om"⟩, by walk_at "MINE om"⟩, fun _ h => nomatch h⟩))
  case done =>
    intro m₁ news₁ h2 tk2 hJ F2 N2
    obtain ⟨o5', ov', lgT, kvs', rfl, hself, hlam5, hdv', hl', hr', _, hoff⟩ := hJ.ex
    have hall : kvs.take vs1.length = kvs := by rw [hk1.len, List.take_length]
    rw [hall, swpV_all hr] at hr'
    obtain ⟨kve, hde, hle, hre⟩ := id hEd
    have hnde := keysNodup_of_isDictOf hde
    have hDne : (@Ne Nat 640 D1) ∧ (@Ne Nat 588 D1) ∧ (@Ne Nat S.ds D1) ∧ (@Ne Nat S.de D1) ∧ (@Ne Nat S.dv D1) := by walk_at "MINE om"
    clear N1 N1' F1 hJ
    (try dsimp only)
    (try k_fold)
    k_steps
    refine ⟨?_⟩
    (have t'K := trivial; have h'K := trivial; have o'K := trivial; have F'K := trivial; have N'K := trivial; have hd'K := trivial; have v'K := trivial; have tk'K := trivial; have oe'K := trivial; have yK := trivial; have hE'K := trivial; have hS'K := trivial; have xK := trivial; have os'K := trivial; have hy'K := trivial; have q'K := trivial; have l1K := trivial; have tp'K := trivial; have u2K := trivial; have u1K := trivial; have u3K := trivial; have u4K := trivial; have hV'K := trivial; have ov'K := trivial; have hv'K := trivial; have hx'K := trivial; have e'K := trivial; have K'K := trivial; have P'K := trivial; have i1'K := trivial; have X'K := trivial; have fc'K := trivial; have g'K := trivial; have T'K := trivial; have I'K := trivial; have i2'K := trivial; have l3K := trivial; have l2K := trivial; have dx'K := trivial; have x'K := trivial; have D'K := trivial; have c'K := trivial; have vs'K := trivial; have hk'K := trivial); rename_i D2 c2 h2' tkk2 vs2 F3 N3 hk2 ll2
    have N3' : News g L' h2' ((640, O.t) :: (588, o5') :: (S.ds, O.s) :: (S.de, O.e) :: (S.dv, ov') :: (D2, listOf vs2.toArray c2) :: lgT) := ncons (N3 _ (by simp)) (ncons (N3 _ (by simp)) (ncons (N3 _ (by simp)) (ncons (N3 _ (by simp)) (ncons (N3 _ (by simp)) (ncons (N3 _ (by simp)) fun q hq => N3 q (by simp [hq]))))))
    (try dsimp only)
    refine for_own (l := D2) (vs := vs2) (c := c2) (J2 PySem.Challenge.pw_jo0040_02 w S O.t o5' ov' lgT D2 vs2 c2 kve σ.fs σ.fe now c) hh F3 N3' ?hJl2 ?hj2 ?turn2 ?done2
    case hJl2 =>
      intro i m n hJ
      obtain ⟨os, oe, rfl, _⟩ := hJ.ex
      simp
    case hj2 =>
      refine ⟨⟨O.s, O.e, rfl, hself, ?_, ?_⟩⟩
      · rw [List.take_zero, List.map_nil]; exact hSd
      · rw [List.take_zero, List.map_nil]; exact hEd
    case turn2 =>
      intro i v m₂ news₁ h3 tk3 I oI hv hJ hI F4 N4
      obtain ⟨os', oe', rfl, hself', hS', hE'⟩ := hJ.ex
      obtain ⟨k, x, tk, hkx, rfl⟩ := hk2.at_ i v hv
      have hnd' := not_done hnde hkx
      have hval := valueAt_mem hnde hkx
      obtain ⟨y, hfy⟩ : ∃ y, σ.fe k = some y := by
        rcases hre k with ⟨_, e⟩ | ⟨y, _, e, _⟩
        · rw [hval] at e; cases e
        · exact ⟨y, e⟩
      have hfy' : swpE σ.fe now ((kve.take i).map (·.1)) k = some y := by unfold swpE; rw [if_neg hnd']; exact hfy
      simp only [List.forall_mem_cons] at hI
      obtain ⟨hI1, hI2, hI3, hI4, hI5, hI6, hI7⟩ := hI
      have htds : ∀ p ∈ lgT, p.1 ≠ S.ds := fun p hp e => (hoff p hp).1 (by rw [e]; simp [Ids.W])
      have htde : ∀ p ∈ lgT, p.1 ≠ S.de := fun p hp e => (hoff p hp).1 (by rw [e]; simp [Ids.W])
      have hDne2 : (@Ne Nat 640 D2) ∧ (@Ne Nat 588 D2) ∧ (@Ne Nat S.ds D2) ∧ (@Ne Nat S.de D2) ∧ (@Ne Nat S.dv D2) := by walk_at "MINE om"
      clear ret N3 N3' F3 hJ hSd hEd
      (try k_fold)
      k_steps
      · (have t'K := trivial; have h'K := trivial; have o'K := trivial; have F'K := trivial; have N'K := trivial; have hd'K := trivial; have v'K := trivial; have tk'K := trivial; have oe'K := trivial; have yK := trivial; have hE'K := trivial; have hS'K := trivial; have xK := trivial; have os'K := trivial; have hy'K := trivial; have q'K := trivial; have l1K := trivial; have tp'K := trivial; have u2K := trivial; have u1K := trivial; have u3K := trivial; have u4K := trivial; have hV'K := trivial; have ov'K := trivial; have hv'K := trivial; have hx'K := trivial; have e'K := trivial; have K'K := trivial; have P'K := trivial; have i1'K := trivial; have X'K := trivial; have fc'K := trivial; have g'K := trivial; have T'K := trivial; have I'K := trivial; have i2'K := trivial; have l3K := trivial; have l2K := trivial; have dx'K := trivial; have x'K := trivial; have D'K := trivial; have c'K := trivial; have vs'K := trivial; have hk'K := trivial); rename_i hyn hA oA vA hSn tkA hB oB vB Fz Nz hEn
        (refine' j2_next Fz Nz ?mI ?e1 ?e2 ?e3 ?e4 ?e5 ?e6 (by walk_at "MINE om") hI7 (fun q hq => ?mT) hself' (by rw [take_keys hkx, (swpS_le hfy hyn).1]; exact hSn) (by rw [take_keys hkx, (swpS_le (fs := σ.fs) hfy hyn).2]; exact hEn); (case mI => k_mem); (case e1 => k_mem); (case e2 => k_mem); (case e3 => k_mem); (case e4 => k_mem); (case e5 => k_mem); (case e6 => k_mem); (case mT => simp [hq]))
      · (have t'K := trivial; have h'K := trivial; have o'K := trivial; have F'K := trivial; have N'K := trivial; have hd'K := trivial; have v'K := trivial; have tk'K := trivial; have oe'K := trivial; have yK := trivial; have hE'K := trivial; have hS'K := trivial; have xK := trivial; have os'K := trivial; have hy'K := trivial; have q'K := trivial; have l1K := trivial; have tp'K := trivial; have u2K := trivial; have u1K := trivial; have u3K := trivial; have u4K := trivial; have hV'K := trivial; have ov'K := trivial; have hv'K := trivial; have hx'K := trivial; have e'K := trivial; have K'K := trivial; have P'K := trivial; have i1'K := trivial; have X'K := trivial; have fc'K := trivial; have g'K := trivial; have T'K := trivial; have I'K := trivial; have i2'K := trivial; have l3K := trivial; have l2K := trivial; have dx'K := trivial; have x'K := trivial; have D'K := trivial; have c'K := trivial; have vs'K := trivial; have hk'K := trivial); rename_i hA tkA tA Fz Nz hyn
        (refine' j2_next Fz Nz ?mI ?e1 ?e2 ?e3 ?e4 ?e5 ?e6 (by walk_at "MINE om") hI7 (fun q hq => ?mT) hself' (by rw [take_keys hkx, (swpS_gt hfy hyn hnd').1]; exact hS') (by rw [take_keys hkx, (swpS_gt (fs := σ.fs) hfy hyn hnd').2]; exact hE'); (case mI => k_mem); (case e1 => k_mem); (case e2 => k_mem); (case e3 => k_mem); (case e4 => k_mem); (case e5 => k_mem); (case e6 => k_mem); (case mT => simp [hq]))
    case done2 =>
      intro m₂ news₁ h3 tk3 hJ F4 N4
      obtain ⟨os', oe', rfl, hself', hS', hE'⟩ := hJ.ex
      have hall2 : kve.take vs2.length = kve := by rw [hk2.len, List.take_length]
      rw [hall2, (swpS_all hre).1] at hS'
      rw [hall2, (swpS_all (fs := σ.fs) hre).2] at hE'
      clear hSd hEd N3 N3' F3
      k_steps
      (refine' ret _ _ _ lgT g (aft_at hg KtsTurn.refl F4 N4 ?mt ?m5 ?ms ?me ?mv (fun q hq => ⟨by simp [hq], (hoff q hq).1⟩) ⟨hS', hE', ⟨kvs', hdv', hl', hr'⟩, D.t.more fun q hq => List.mem_append_right _ hq, hlam5, hbd.sweep, D.hc⟩); (case mt => k_mem); (case m5 => k_mem); (case ms => k_mem); (case me => k_mem); (case mv => k_mem))

theorem reg_CTg : True := by
  k_with_none
  k_with "MINE pj" => (first | with_reducible assumption | exact an0 (by with_reducible assumption) | exact an1 (by with_reducible assumption) | exact an2 (by with_reducible assumption) | exact an3 (by with_reducible assumption) | exact an4 (by with_reducible assumption) | exact an5 (by with_reducible assumption) | exact an6 (by with_reducible assumption) | exact an7 (by with_reducible assumption) | exact an8 (by with_reducible assumption) | exact an9 (by with_reducible assumption) | exact bn1 (by with_reducible assumption) | exact bn2 (by with_reducible assumption) | exact bn3 (by with_reducible assumption) | exact bn4 (by with_reducible assumption) | exact bn5 (by with_reducible assumption) | exact bn6 (by with_reducible assumption) | exact bn7 (by with_reducible assumption) | exact bn8 (by with_reducible assumption))
  k_with "MINE lt" => (first | walk_at "MINE pj" | (with_reducible refine Nat.lt_trans ?_ (by with_reducible assumption); walk_at "MINE lt"))
  k_with "MINE ne" => (with_reducible refine neN ?_; (try dsimp only); first | with_reducible assumption | (refine Ne.symm ?_; with_reducible assumption) | (refine Nat.ne_of_lt ?_; with_reducible assumption) | (refine Nat.ne_of_gt ?_; with_reducible assumption) | (simp only [*, ne_eq, not_false_eq_true]; done) | (refine Ne.symm ?_; (simp only [*, ne_eq, not_false_eq_true]; done)) | (refine Nat.ne_of_lt ?_; (simp only [*]; done)) | (refine Nat.ne_of_gt ?_; (simp only [*]; done)) | assumption | decide | (refine Nat.ne_of_gt ?_; walk_at "MINE lt") | (refine Nat.ne_of_lt ?_; walk_at "MINE lt") | lia | omega)
  k_with "MINE nes" => (repeat' (first | (refine And.intro ?_ ?_) | (with_reducible refine neN ?_; walk_at "MINE ne")))
  k_with "MINE om" => (first | with_reducible assumption | exact Nat.le_of_ble_eq_true rfl | exact an0 (by with_reducible assumption) | exact bn1 (by with_reducible assumption) | exact an1 (by with_reducible assumption) | exact Nat.lt_of_le_of_lt (Nat.le_add_right _ _) (by with_reducible assumption) | exact Int.lt_trans (by with_reducible assumption) (by decide) | exact Int.lt_trans (bn1 (by with_reducible assumption)) (by decide) | exact Int.lt_of_lt_of_le (by decide) (by with_reducible assumption) | exact Int.lt_of_lt_of_le (by decide) (an0 (by with_reducible assumption)) | exact Nat.le_trans (by with_reducible assumption) (by decide) | exact Int.le_of_lt (by with_reducible assumption) | exact Int.le_trans (by with_reducible assumption) (by decide) | exact Int.lt_of_le_of_lt (by with_reducible assumption) (by decide) | decide | (walk_at "MINE nes"; done) | lia | omega)
  k_with "getMethod ref" => (k_here; k_dflt (refine' dMethI ?N_0 ?m_0 ?d_0 ?i_0 ?_; (case N_0 => k_asm); (case m_0 => k_mem); (case d_0 => k_asm); (case i_0 => exact rfl); k_whole))
  k_with "call builtin:dict.get" => (k_here; k_dflt (refine' dGetI ?N_1 ?m_1 ?d_1 ?lo_1 ?_; (case N_1 => k_asm); (case m_1 => k_mem); (case d_1 => k_asm); (case lo_1 => k_asm); k_whole; intro t'K))
  k_with "call builtin:dict.pop" => (k_here; k_dflt (refine' dPopI ?F_2 ?N_2 ?U_2 ?d_2 ?lo_2 ?z_2 ?_; (case F_2 => k_asm); (case N_2 => k_asm); (case U_2 => k_updF); (case d_2 => k_asm); (case lo_2 => k_asm); (case z_2 => walk_at "MINE om"); k_whole; intro h'K o'K v'K F'K N'K hd'K; (try dsimp only at N'K); (try k_sweep)))
  k_with "getMethod ref" => (k_here; k_dflt (refine' dMethV ?N_3 ?m_3 ?d_3 ?i_3 ?_; (case N_3 => k_asm); (case m_3 => k_mem); (case d_3 => k_asm); (case i_3 => exact rfl); k_whole))
  k_with "call builtin:dict.pop" => (k_here; k_dflt (refine' dPopV ?F_4 ?N_4 ?U_4 ?d_4 ?lo_4 ?z_4 ?_; (case F_4 => k_asm); (case N_4 => k_asm); (case U_4 => k_updF); (case d_4 => k_asm); (case lo_4 => k_asm); (case z_4 => walk_at "MINE om"); k_whole; intro h'K o'K v'K F'K N'K hd'K; (try dsimp only at N'K); (try k_sweep)))
  k_with "setItem ref str" => (k_here; k_dflt (refine' dSetI ?F_5 ?N_5 ?U_5 ?d_5 ?z_5 ?_; (case F_5 => k_asm); (case N_5 => k_asm); (case U_5 => k_updF); (case d_5 => k_asm); (case z_5 => walk_at "MINE om"); k_whole; intro h'K o'K F'K N'K hd'K; (try dsimp only at N'K); (try k_sweep)))
  k_with "subscriptTail" => (k_here; (with_reducible show wpAny _ _ (subscriptTail _ _ (Value.ref _) (Value.str _ _)) _ _ _); k_dflt (refine' dTailI ?N_6 ?m_6 ?d_6 ?_; (case N_6 => k_asm); (case m_6 => k_mem); (case d_6 => k_asm); k_whole))
  k_with "getItem ref str" => (k_here; k_dflt (refine' dItemI ?N_7 ?m_7 ?d_7 ?v_7 ?_; (case N_7 => k_asm); (case m_7 => k_mem); (case d_7 => k_asm); (case v_7 => first | k_asm | exact if_pos rfl); k_whole; intro t'K))
  k_with "getAttr ref" => (k_here; k_dflt (refine' getOwnG ?k1_8 ?k2_8 ?i1_8 ?i2_8 ?k4_8 ?k5_8 ?k6_8 ?k7_8 ?k8_8 ?k9_8 ?_; (case k1_8 => k_asm); (case k2_8 => k_asm); (case i1_8 => k_asm); (case i2_8 => k_asm); (case k4_8 => k_is); (case k5_8 => k_is); (case k6_8 => k_is); (case k7_8 => k_is); (case k8_8 => k_get); (case k9_8 => k_handed); k_whole))
  k_with "getMethod ref" => (k_here; k_dflt (refine' methG ?k1_9 ?k2_9 ?i1_9 ?i2_9 ?k4_9 ?k5_9 ?k6_9 ?k7_9 ?_; (case k1_9 => k_asm); (case k2_9 => k_asm); (case i1_9 => k_asm); (case i2_9 => k_asm); (case k4_9 => k_is); (case k5_9 => k_is); (case k6_9 => k_is); (case k7_9 => k_get); k_whole))
  k_with "getMethod ref" => (k_here; k_dflt (refine' kmuOwnG ?k1_10 ?k2_10 ?i1_10 ?i2_10 ?k4_10 ?k5_10 ?_; (case k1_10 => k_asm); (case k2_10 => k_asm); (case i1_10 => k_asm); (case i2_10 => k_asm); (case k4_10 => k_is); (case k5_10 => k_is); k_whole))
  k_with "callWith ref" => (k_here; (with_reducible show wpAny _ _ (callWith _ (Value.ref _) [] (backTo _ (starEach [] _)) []) _ _ _); k_dflt (refine' callFn0 ?k1_11 ?k2_11 ?_; (case k1_11 => k_asm); (case k2_11 => k_asm); k_whole))
  k_with "callWith ref" => (k_here; (with_reducible show wpAny _ _ (callWith _ (Value.ref _) _ (backTo _ (starEach (_ :: _) _)) []) _ _ _); k_dflt (first | (refine' callWith_K ?k1_12 ?k2_12 ?_; (case k1_12 => k_asm); (case k2_12 => k_is); k_whole) | (refine' callWith_M ?k1_12 ?k2_12 ?k3_12 ?k4_12 ?_; (case k1_12 => k_asm); (case k2_12 => k_asm); (case k3_12 => k_mem); (case k4_12 => k_is); k_whole)))
  k_with "MINE room" => (first | assumption | exact ArOk.down (by assumption) (by walk_at "MINE om"))
  k_with "call ref" => (k_here; k_dflt (refine' clk_use ?C_14 ?F_14 ?N_14 ?d_14 ?_; (case C_14 => k_asm); (case F_14 => k_asm); (case N_14 => k_asm); (case d_14 => walk_at "MINE room"); k_whole; intro h'K tk'K t'K F'K N'K; (try k_sweep)))
  k_with "call ref" => (k_here; (with_reducible show wpAny _ _ (call (Value.ref 616) _) _ _ _); k_dflt (refine' get_use ?C_15 ?ok_15 ?F_15 ?N_15 ?ms_15 ?me_15 ?mv_15 ?U1_15 ?U2_15 ?U3_15 ?X_15 ?T_15 ?I_15 ?hS_15 ?hE_15 ?hc_15 ?hd_15 ?_; (case C_15 => k_asm); (case ok_15 => k_asm); (case F_15 => k_asm); (case N_15 => k_asm); (case ms_15 => k_mem); (case me_15 => k_mem); (case mv_15 => k_mem); (case U1_15 => k_updF); (case U2_15 => (intro xK; k_updF)); (case U3_15 => (intro xK yK; k_updF)); (case X_15 => k_asm); (case T_15 => k_asm); (case I_15 => k_asm); (case hS_15 => k_asm); (case hE_15 => k_asm); (case hc_15 => walk_at "MINE om"); (case hd_15 => walk_at "MINE room"); k_whole; intro h'K tk'K t'K os'K oe'K F'K N'K hS'K hE'K; (try dsimp only at N'K); (try k_sweep)))
  k_with "MINE enter" => (
  (case ho => k_is); (case hcd => k_is); (case hroom => walk_at "MINE om"); (case hbind => first | exact BindsTo.of_eq rfl | exact binds_K (by k_in) rfl (by k_is) rfl rfl rfl);
  (case c5 => decide); (case hloc => exact locs rfl); (case c2 => exact rfl); (case c3 => exact rfl); (case c4 => exact rfl))
  k_with "MINE exit" => ((case F => k_asm); (case N => k_asm); (case a => k_mem); (case b => k_mem); (case c => k_mem))
  k_with "formatField int" => (k_here; (with_reducible show wpAny _ _ (formatField (Value.int _ _) _) _ _ _); k_dflt (refine' fmtI ?a_18 ?b_18 ?_; (case a_18 => walk_at "MINE om"); (case b_18 => walk_at "MINE om"); k_whole; intro hy'K t'K))
  k_with "And" => ((with_reducible show PySem.Str.length (_ ++ _) ≤ sizeLine ∧ wpAny _ _ (joinParts _ _) _ _ _); refine ⟨?a_19, ?_⟩; (case a_19 => (simp only [Str.length_append, Str.empty_append, slk_one, sizeLine_eq]; walk_at "MINE om")))
  k_with "getMethod ref" => (k_here; k_dflt (refine' kmuCmG ?k1_20 ?k2_20 ?k3_20 ?i1_20 ?i2_20 ?k5_20 ?k6_20 ?k7_20 ?k8_20 ?k9_20 ?k10_20 ?k11_20 ?k12_20 ?k13_20 ?_; (case k1_20 => k_asm); (case k2_20 => k_asm); (case k3_20 => k_asm); (case i1_20 => k_asm); (case i2_20 => k_asm); (case k5_20 => k_is); (case k6_20 => k_is); (case k7_20 => k_is); (case k8_20 => k_is); (case k9_20 => k_is); (case k10_20 => k_is); (case k11_20 => decide +kernel); (case k12_20 => k_get); (case k13_20 => k_is); k_whole; intro q'K h'K F'K N'K l1K; (try k_lt l1K); (try k_sweep)))
  k_with "call ref" => (k_here; k_dflt (refine' keys_use ?C_21 ?F_21 ?N_21 ?q_21 ?X_21 ?T_21 ?h0_21 ?h1_21 ?h2_21 ?hk_21 ?hd_21 ?_; (case C_21 => k_asm); (case F_21 => k_asm); (case N_21 => k_asm); (case q_21 => k_mem); (case X_21 => k_asm); (case T_21 => k_asm); (case h0_21 => walk_at "MINE om"); (case h1_21 => walk_at "MINE om"); (case h2_21 => walk_at "MINE om"); (case hk_21 => assumption); (case hd_21 => walk_at "MINE room"); k_whole; intro h'K tk'K tp'K u1K u2K F'K N'K l1K; (try simp only [List.forall_mem_cons, List.not_mem_nil, false_implies, implies_true, and_true] at l1K); (try k_sweep)))
  k_with "call ref" => (k_here; (with_reducible show wpAny _ _ (call (Value.ref 660) _) _ _ _); k_dflt (refine' info_use ?C_22 ?ok_22 ?F_22 ?N_22 ?ms_22 ?me_22 ?mv_22 ?U1_22 ?U2_22 ?U3_22 ?X_22 ?T_22 ?I_22 ?hV_22 ?hS_22 ?hE_22 ?hc_22 ?h0_22 ?hd_22 ?_; (case C_22 => k_asm); (case ok_22 => k_asm); (case F_22 => k_asm); (case N_22 => k_asm); (case ms_22 => k_mem); (case me_22 => k_mem); (case mv_22 => k_mem); (case U1_22 => k_updF); (case U2_22 => (intro xK; k_updF)); (case U3_22 => (intro xK yK; k_updF)); (case X_22 => k_asm); (case T_22 => k_asm); (case I_22 => k_asm); (case hV_22 => k_asm); (case hS_22 => k_asm); (case hE_22 => k_asm); (case hc_22 => walk_at "MINE om"); (case h0_22 => walk_at "MINE om"); (case hd_22 => walk_at "MINE room"); k_whole; intro h'K tk'K os'K oe'K tp'K u1K u2K u3K u4K F'K N'K l1K hS'K hE'K; (try simp only [List.forall_mem_cons, List.not_mem_nil, false_implies, implies_true, and_true] at l1K); (try dsimp only at N'K); (try k_sweep)))
  k_with "call ref" => (k_here; (with_reducible show wpAny _ _ (call (Value.ref 601) _ _) _ _ _); k_dflt (refine' incr_use ?C_23 ?ok_23 ?F_23 ?N_23 ?ms_23 ?me_23 ?mv_23 ?U1_23 ?U2_23 ?U3_23 ?X_23 ?T_23 ?I_23 ?hS_23 ?hE_23 ?hc_23 ?hd_23 ?_; (case C_23 => k_asm); (case ok_23 => k_asm); (case F_23 => k_asm); (case N_23 => k_asm); (case ms_23 => k_mem); (case me_23 => k_mem); (case mv_23 => k_mem); (case U1_23 => k_updF); (case U2_23 => (intro xK; k_updF)); (case U3_23 => (intro xK yK; k_updF)); (case X_23 => k_asm); (case T_23 => k_asm); (case I_23 => k_asm); (case hS_23 => k_asm); (case hE_23 => k_asm); (case hc_23 => walk_at "MINE om"); (case hd_23 => walk_at "MINE room"); k_whole; intro h'K tk'K t'K os'K oe'K F'K N'K hS'K hE'K; (try dsimp only at N'K); (try k_sweep)))
  k_with "call ref" => (k_here; (with_reducible show wpAny _ _ (call (Value.ref 623) _) _ _ _); k_dflt (refine' clear_use ?C_24 ?ok_24 ?F_24 ?N_24 ?ms_24 ?me_24 ?mv_24 ?U1_24 ?U2_24 ?U3_24 ?X_24 ?T_24 ?I_24 ?hS_24 ?hE_24 ?hV_24 ?hc_24 ?hd_24 ?_; (case C_24 => k_asm); (case ok_24 => k_asm); (case F_24 => k_asm); (case N_24 => k_asm); (case ms_24 => k_mem); (case me_24 => k_mem); (case mv_24 => k_mem); (case U1_24 => k_updF); (case U2_24 => (intro xK; k_updF)); (case U3_24 => (intro xK yK; k_updF)); (case X_24 => k_asm); (case T_24 => k_asm); (case I_24 => k_asm); (case hS_24 => k_asm); (case hE_24 => k_asm); (case hV_24 => k_asm); (case hc_24 => walk_at "MINE om"); (case hd_24 => walk_at "MINE room"); k_whole; intro h'K tk'K os'K oe'K ov'K F'K N'K hS'K hE'K hV'K; (try dsimp only at N'K); (try k_sweep)))
  k_with "assign Tuple" => (k_here; (with_reducible show wpAny _ _ (assign (Expr.Tuple _ _ _) _ (Value.ref _)) _ _ _); k_dflt (refine' unpackN_ ?k1_25 ?k2_25 ?k3_25 ?k4_25 ?k5_25 ?k6_25 ?_; (case k1_25 => k_asm); (case k2_25 => k_asm); (case k3_25 => kun_tup); (case k4_25 => assumption); (case k5_25 => exact rfl); (case k6_25 => exact rfl); k_whole); intro h'K F'K N'K; (try k_sweep))
  k_with "binaryOp Mult int int" => (k_here; (first | refine PySem.mul_int ?_ (hm := IntMulOk.of_left (intBits_le_64 (by walk_at "MINE om") (by walk_at "MINE om"))) | refine PySem.mul_int ?_ (hm := IntMulOk.of_right (intBits_le_64 (by walk_at "MINE om") (by walk_at "MINE om")))))
  k_with "MINE get" => first | (refine' Fr.keep ?fr_27 _ _ ?gt_27; (case fr_27 => k_asm); (case gt_27 => assumption)) | (refine' Fr.keep ?fr_27 _ _ (Below.stays ?kb_27 _ _ ?bt_27); (case fr_27 => k_asm); (case kb_27 => assumption); (case bt_27 => assumption)) | (refine' news_at ?nn_27 ?mm_27; (case nn_27 => k_asm); (case mm_27 => k_mem))
  k_with "call type:type" => (k_here; (with_reducible show wpAny _ _ (call (Value.type "type") [Value.ref _]) _ _ _); k_dflt (refine' typeK ?F_28 ?x_28 ?c_28 ?_; (case F_28 => k_asm); (case x_28 => assumption); (case c_28 => exact rfl); k_whole))
  k_with "call builtin:issubclass" => (k_here; k_dflt (refine' issub_F ?F_29 ?X_29 ?c_29 ?h_29 ?_; (case F_29 => k_asm); (case X_29 => k_asm); (case c_29 => k_is); (case h_29 => k_is); k_whole))
  k_with "getMethod type:tuple" => (k_here; refine' method_type ?F_30 ?X_30 ?m_30 ?hs_30 ?e_30 ?h_30 ?_; (case hs_30 => decide +kernel); (case F_30 => k_asm); (case X_30 => k_asm); (case m_30 => exact meta_tuple); (case e_30 => k_dflt k_is); (case h_30 => k_handed))
  k_with "call builtin:tuple.__getitem__" => (k_here; refine' call_tup ?F_31 ?X_31 ?x_31 ?h_31 ?a_31 ?b_31 ?k_31 ?y_31 ?_; (case F_31 => k_asm); (case X_31 => k_asm); (case x_31 => walk_at "MINE get"); (case h_31 => k_is); (case a_31 => decide); (case b_31 => decide); (case k_31 => exact rfl); (case y_31 => exact rfl))
  k_with "getAttr ref" => (k_here; k_dflt (refine' get_tgI ?C_32 ?F_32 ?N_32 ?X_32 ?T_32 ?x_32 ?dx_32 ?no_32 ?ga_32 ?gk_32 ?h2_32 ?c_32 ?a_32 ?n_32 ?t_32 ?d_32 ?_; (case F_32 => k_asm); (case N_32 => k_asm); (case X_32 => k_asm); (case T_32 => k_asm); (case x_32 => k_is); (case a_32 => k_is); (case C_32 => assumption); (case dx_32 => k_is); (case no_32 => exact rfl); (case ga_32 => k_is); (case gk_32 => k_is); (case h2_32 => k_is); (case c_32 => k_is); (case n_32 => k_is); (case t_32 => k_is); (case d_32 => walk_at "MINE room"); k_whole; intro h'K tk'K t'K F'K N'K; (try k_sweep)))
  k_with "getAttr ref" => (k_here; k_dflt (refine' get_tgS ?C_33 ?F_33 ?N_33 ?X_33 ?T_33 ?x_33 ?dx_33 ?no_33 ?ga_33 ?gk_33 ?h2_33 ?c_33 ?a_33 ?n_33 ?t_33 ?d_33 ?_; (case F_33 => k_asm); (case N_33 => k_asm); (case X_33 => k_asm); (case T_33 => k_asm); (case x_33 => k_is); (case a_33 => k_is); (case C_33 => assumption); (case dx_33 => k_is); (case no_33 => exact rfl); (case ga_33 => k_is); (case gk_33 => k_is); (case h2_33 => k_is); (case c_33 => k_is); (case n_33 => k_is); (case t_33 => k_is); (case d_33 => walk_at "MINE room"); k_whole; intro h'K tk'K t'K F'K N'K; (try k_sweep)))
  k_with "eval ListComp" => (k_here; k_dflt (refine ListComp_Tp (_F₀ := by k_asm) (by rfl) (by decide) (by rfl) (by decide) (by rfl) ?_))
  k_with "SrcTp" => (k_here; k_dflt (refine' srcTp_ ?hh_35 ?F_35 ?N_35 ?t_35 ?z_35 ?_; (case hh_35 => assumption); (case F_35 => k_asm); (case N_35 => k_asm); (case t_35 => assumption); (case z_35 => assumption)); intro g'K; (try dsimp only); refine' comp_strs ?hv_35 ?_ ?_; (case hv_35 => assumption); rotate_left; intro ys9'K hys9'K; rotate_right; (intro k'K t'K I'K oI'K C'K oC'K D'K m'K ys'K h'K tk'K E'K hk'K hC'K hx'K F'K N'K off'K ne'K; (have hkl' := (by assumption : ∀ n ∈ _, Str.length n ≤ 100) _ hk'K); clear hk'K; (try simp only [LCg.Off3, and_true] at off'K)))
  k_with "call ref" => (k_here; (with_reducible show wpAny _ _ (call (Value.ref 348) [Value.str _ _]) _ _ _); k_dflt (refine' (by assumption : SafeSC _ _ _) _ _ _ _ _ _ _ _ _ _ _ _ _ _ ?F_36 ?N_36 ?X_36 ?T_36 ?x_36 ?d_36 ?_; (case F_36 => k_asm); (case N_36 => k_asm); (case X_36 => k_asm); (case T_36 => k_asm); (case x_36 => assumption); (case d_36 => walk_at "MINE room"); k_whole; intro h'K tk'K t'K F'K N'K; (try k_sweep)))
  k_with "call ref" => (k_here; (with_reducible show wpAny _ _ (call (Value.ref 348) [Value.int _ _]) _ _ _); k_dflt (refine' (by assumption : SafeIC _ _ _) _ _ _ _ _ _ _ _ _ _ _ _ _ _ ?F_37 ?N_37 ?X_37 ?T_37 ?a_37 ?b_37 ?d_37 ?_; (case F_37 => k_asm); (case N_37 => k_asm); (case X_37 => k_asm); (case T_37 => k_asm); (case a_37 => walk_at "MINE om"); (case b_37 => walk_at "MINE om"); (case d_37 => walk_at "MINE room"); k_whole; intro h'K tk'K t'K F'K N'K; (try k_sweep)))
  k_with "call builtin:str.join" => (k_here; (refine' join_listS ?l_38 ?i_38 ?s_38 ?w_38 ?j_38 ?_; (case l_38 => first | is_list | exact ⟨_, news_at (by k_asm) (by k_mem), rfl, _, rfl⟩); (case i_38 => first | assumption | (repeat constructor)); (case s_38 => decide); (case w_38 => with_reducible assumption); (case j_38 => with_reducible assumption); intro t'K k'K y'K ey'K jy'K))
  k_with "formatField str" => (k_here; refine' formatField_str ?go_39 ?z_39; (case z_39 => exact JL.line (by with_reducible assumption)); intro t'K tk'K)
  k_with "And" => ((with_reducible show PySem.Str.length (_ ++ _) ≤ sizeLine ∧ wpAny _ _ (joinParts _ _) _ _ _); refine ⟨?a_40, ?_⟩; (case a_40 => first | exact JL.line1 (by with_reducible assumption) | exact JL.line2 (by with_reducible assumption) | exact JL.line3 (by with_reducible assumption) (by with_reducible assumption)))
  k_with "And" => (exact ⟨rfl, _, rfl⟩)
  k_with "binaryOp Add ref ref" => (k_here; (with_reducible show wpAny _ _ (binaryOp _ (Value.ref _) (Value.ref _)) _ _ _); k_dflt (refine' cat_strs ?F_42 ?N_42 ?a_42 ?b_42 ?i_42 ?j_42 ?z_42 ?_; (case F_42 => k_asm); (case N_42 => k_asm); (case a_42 => exact ⟨_, news_at (by k_asm) (by k_mem), rfl, _, rfl⟩); (case b_42 => exact ⟨_, news_at (by k_asm) (by k_mem), rfl, _, rfl⟩); (case i_42 => assumption); (case j_42 => repeat constructor); (case z_42 => exact Nat.le_trans (Nat.add_le_add_right (by assumption : List.length _ ≤ 9) _) (Nat.le_of_ble_eq_true rfl))); intro D'K zs'K h'K F'K N'K l1'K hz'K; (try k_lt l1'K); (try k_sweep))
  k_with "eval Name" => (k_here; k_dflt (refine' nameX_L ?F_zn ?v_zn ?_ ?a_zn ?b_zn; (case F_zn => k_asm); (case a_zn => rfl); (case b_zn => rfl); (case v_zn => rfl); k_whole))
  trivial

theorem c_tg1 (w : World) : TgK (Mine.kmake.heap_1 w.params) PySem.Challenge.pw_jo0040_02 w 408 498 416 (fun v => ∃ t, v = .int 60 t) := by
  have hfill : (PySem.Challenge.rw_jo0040_02 = PySem.Challenge.rw_jo0040_02) ∧ (Mine.kmake.heap_1 = Mine.kmake.heap_1) := by k_fill; exact ⟨rfl, rfl⟩
  clear hfill
  intro p loose mg mb A s Q E X T hd ret
  have hroom' := hd.d
  have hh := hd.h
  have hu := hd.u
  refine wpAny_call ?_
  refine' enter (Wl := []) (news := []) (binds := [("self", .ref 408), ("obj", .ref 498), ("objtype", .ref 416)]) X T (fun _ h => nomatch h) ?ho ?hcd ?hroom ?hbind ?hloc ?_ ?c2 ?c3 ?c4 ?c5
  walk_at "MINE enter"
  intro L' h₁ F N lt
  change Fr s.heap L' h₁ _ at F
  change News s.heap L' h₁ _ at N
  (try dsimp only [List.reverse, List.reverseAux] at F)
  clear lt
  generalize hg : s.heap = g at *
  have hx : g.get? 498 = some _ := X 498 _ (by k_is)
  (try k_fold)
  k_steps
  exact ret _ _ _ (Fr.keep (by k_asm)) ⟨_, rfl⟩
theorem c_tg2 (w : World) : TgK (Mine.kmake.heap_1 w.params) PySem.Challenge.pw_jo0040_02 w 411 498 416 (fun v => ∃ t, v = .str "minute" t) := by
  have hfill : (PySem.Challenge.rw_jo0040_02 = PySem.Challenge.rw_jo0040_02) ∧ (Mine.kmake.heap_1 = Mine.kmake.heap_1) := by k_fill; exact ⟨rfl, rfl⟩
  clear hfill
  intro p loose mg mb A s Q E X T hd ret
  have hroom' := hd.d
  have hh := hd.h
  have hu := hd.u
  refine wpAny_call ?_
  refine' enter (Wl := []) (news := []) (binds := [("self", .ref 411), ("obj", .ref 498), ("objtype", .ref 416)]) X T (fun _ h => nomatch h) ?ho ?hcd ?hroom ?hbind ?hloc ?_ ?c2 ?c3 ?c4 ?c5
  walk_at "MINE enter"
  intro L' h₁ F N lt
  change Fr s.heap L' h₁ _ at F
  change News s.heap L' h₁ _ at N
  (try dsimp only [List.reverse, List.reverseAux] at F)
  clear lt
  generalize hg : s.heap = g at *
  have hx : g.get? 498 = some _ := X 498 _ (by k_is)
  (try k_fold)
  k_steps
  exact ret _ _ _ (Fr.keep (by k_asm)) ⟨_, rfl⟩
theorem c_tg3 (w : World) : TgK (Mine.kmake.heap_1 w.params) PySem.Challenge.pw_jo0040_02 w 408 515 416 (fun v => ∃ t, v = .int 1 t) := by
  have hfill : (PySem.Challenge.rw_jo0040_02 = PySem.Challenge.rw_jo0040_02) ∧ (Mine.kmake.heap_1 = Mine.kmake.heap_1) := by k_fill; exact ⟨rfl, rfl⟩
  clear hfill
  intro p loose mg mb A s Q E X T hd ret
  have hroom' := hd.d
  have hh := hd.h
  have hu := hd.u
  refine wpAny_call ?_
  refine' enter (Wl := []) (news := []) (binds := [("self", .ref 408), ("obj", .ref 515), ("objtype", .ref 416)]) X T (fun _ h => nomatch h) ?ho ?hcd ?hroom ?hbind ?hloc ?_ ?c2 ?c3 ?c4 ?c5
  walk_at "MINE enter"
  intro L' h₁ F N lt
  change Fr s.heap L' h₁ _ at F
  change News s.heap L' h₁ _ at N
  (try dsimp only [List.reverse, List.reverseAux] at F)
  clear lt
  generalize hg : s.heap = g at *
  have hx : g.get? 515 = some _ := X 515 _ (by k_is)
  (try k_fold)
  k_steps
  exact ret _ _ _ (Fr.keep (by k_asm)) ⟨_, rfl⟩
theorem c_tg4 (w : World) : TgK (Mine.kmake.heap_1 w.params) PySem.Challenge.pw_jo0040_02 w 411 515 416 (fun v => ∃ t, v = .str "second" t) := by
  have hfill : (PySem.Challenge.rw_jo0040_02 = PySem.Challenge.rw_jo0040_02) ∧ (Mine.kmake.heap_1 = Mine.kmake.heap_1) := by k_fill; exact ⟨rfl, rfl⟩
  clear hfill
  intro p loose mg mb A s Q E X T hd ret
  have hroom' := hd.d
  have hh := hd.h
  have hu := hd.u
  refine wpAny_call ?_
  refine' enter (Wl := []) (news := []) (binds := [("self", .ref 411), ("obj", .ref 515), ("objtype", .ref 416)]) X T (fun _ h => nomatch h) ?ho ?hcd ?hroom ?hbind ?hloc ?_ ?c2 ?c3 ?c4 ?c5
  walk_at "MINE enter"
  intro L' h₁ F N lt
  change Fr s.heap L' h₁ _ at F
  change News s.heap L' h₁ _ at N
  (try dsimp only [List.reverse, List.reverseAux] at F)
  clear lt
  generalize hg : s.heap = g at *
  have hx : g.get? 515 = some _ := X 515 _ (by k_is)
  (try k_fold)
  k_steps
  exact ret _ _ _ (Fr.keep (by k_asm)) ⟨_, rfl⟩


theorem c_exp1 (w : World) (hTg : TgK (Mine.kmake.heap_1 w.params) PySem.Challenge.pw_jo0040_02 w 408 498 416 (fun v => ∃ t, v = .int 60 t)) : ExpC (Mine.kmake.heap_1 w.params) PySem.Challenge.pw_jo0040_02 w 501 60 := by
  have hfill : (PySem.Challenge.rw_jo0040_02 = PySem.Challenge.rw_jo0040_02) ∧ (Mine.kmake.heap_1 = Mine.kmake.heap_1) := by k_fill; exact ⟨rfl, rfl⟩
  clear hfill
  intro p loose mg mb A s b it ns amount length Q E hb X0 T0 hI hl0 hl1 hd ret
  obtain ⟨dx, t1, t2, t3, t4, t5, t6, hi1, hi2, hn1, hn2⟩ := hI.ex
  have hroom' := hd.d
  have hh := hd.h
  have hu := hd.u
  have X : (Mine.kmake.heap_1 w.params).In (hideAll s.heap [it, dx]) := X0.keeps (hide2 hb hn1 hn2)
  have T : TopRead p loose mg mb (hideAll s.heap [it, dx]) := T0.keeps (hide2 hb hn1 hn2)
  clear X0 T0 hb
  refine wpAny_call ?_
  refine' enter (Wl := [it, dx]) (news := [(it, instObj 501 dx), (dx, dictOf (itDict w ns amount length t1 t2 t3 t4 t5 t6) 3)]) (binds := [("self", .ref it)]) X T (List.forall_mem_cons.mpr ⟨⟨hi1, by k_mem⟩, List.forall_mem_cons.mpr ⟨⟨hi2, by k_mem⟩, fun _ h => nomatch h⟩⟩) ?ho ?hcd ?hroom ?hbind ?hloc ?_ ?c2 ?c3 ?c4 ?c5
  walk_at "MINE enter"
  intro L' h₁ F N lt
  (try dsimp only [List.reverse, List.reverseAux] at F)
  clear lt
  have ret' : ∀ h' tk' t m news L, Fr (hideAll s.heap [it, dx]) L h' m → News (hideAll s.heap [it, dx]) L h' news → (it, instObj 501 dx) ∈ news → (dx, dictOf (itDict w ns amount length t1 t2 t3 t4 t5 t6) 3) ∈ news → Q (.int (60 * length) t) { s with heap := h', toks := tk' } :=
    fun h' tk' t m news L F N a b => ret _ _ _ (back_all hi1 hi2 F N a b)
  generalize hg : hideAll s.heap [it, dx] = g at *
  (try k_fold)
  k_steps
  (refine' ret' _ _ _ _ _ _ ?F ?N ?a ?b; (case F => k_asm); (case N => k_asm); (case a => k_mem); (case b => k_mem))
theorem c_exp2 (w : World) (hTg : TgK (Mine.kmake.heap_1 w.params) PySem.Challenge.pw_jo0040_02 w 408 515 416 (fun v => ∃ t, v = .int 1 t)) : ExpC (Mine.kmake.heap_1 w.params) PySem.Challenge.pw_jo0040_02 w 518 1 := by
  have hfill : (PySem.Challenge.rw_jo0040_02 = PySem.Challenge.rw_jo0040_02) ∧ (Mine.kmake.heap_1 = Mine.kmake.heap_1) := by k_fill; exact ⟨rfl, rfl⟩
  clear hfill
  intro p loose mg mb A s b it ns amount length Q E hb X0 T0 hI hl0 hl1 hd ret
  obtain ⟨dx, t1, t2, t3, t4, t5, t6, hi1, hi2, hn1, hn2⟩ := hI.ex
  have hroom' := hd.d
  have hh := hd.h
  have hu := hd.u
  have X : (Mine.kmake.heap_1 w.params).In (hideAll s.heap [it, dx]) := X0.keeps (hide2 hb hn1 hn2)
  have T : TopRead p loose mg mb (hideAll s.heap [it, dx]) := T0.keeps (hide2 hb hn1 hn2)
  clear X0 T0 hb
  refine wpAny_call ?_
  refine' enter (Wl := [it, dx]) (news := [(it, instObj 518 dx), (dx, dictOf (itDict w ns amount length t1 t2 t3 t4 t5 t6) 3)]) (binds := [("self", .ref it)]) X T (List.forall_mem_cons.mpr ⟨⟨hi1, by k_mem⟩, List.forall_mem_cons.mpr ⟨⟨hi2, by k_mem⟩, fun _ h => nomatch h⟩⟩) ?ho ?hcd ?hroom ?hbind ?hloc ?_ ?c2 ?c3 ?c4 ?c5
  walk_at "MINE enter"
  intro L' h₁ F N lt
  (try dsimp only [List.reverse, List.reverseAux] at F)
  clear lt
  have ret' : ∀ h' tk' t m news L, Fr (hideAll s.heap [it, dx]) L h' m → News (hideAll s.heap [it, dx]) L h' news → (it, instObj 518 dx) ∈ news → (dx, dictOf (itDict w ns amount length t1 t2 t3 t4 t5 t6) 3) ∈ news → Q (.int (1 * length) t) { s with heap := h', toks := tk' } :=
    fun h' tk' t m news L F N a b => ret _ _ _ (back_all hi1 hi2 F N a b)
  generalize hg : hideAll s.heap [it, dx] = g at *
  (try k_fold)
  k_steps
  (refine' ret' _ _ _ _ _ _ ?F ?N ?a ?b; (case F => k_asm); (case N => k_asm); (case a => k_mem); (case b => k_mem))


theorem c_kf1 (w : World) (names : List Str) (hnn : ∀ n ∈ names, Str.length n ≤ 100) (hnl : names.length ≤ 9) (hnm : ∀ x y : Int, 0 ≤ x ∧ x ≤ 1000 → 0 ≤ y ∧ y ≤ 1000 → JL (Str.join (Str.ofString "/") (names ++ [dig x, dig y, Str.ofString "minute"])) ∧ JW (names ++ [dig x, dig y, Str.ofString "minute"])) (hSs : SafeSC (Mine.kmake.heap_1 w.params) PySem.Challenge.pw_jo0040_02 w) (hSi : SafeIC (Mine.kmake.heap_1 w.params) PySem.Challenge.pw_jo0040_02 w) (hTg : TgK (Mine.kmake.heap_1 w.params) PySem.Challenge.pw_jo0040_02 w 411 498 416 (fun v => ∃ t, v = .str "minute" t)) : KfC (Mine.kmake.heap_1 w.params) PySem.Challenge.pw_jo0040_02 w 501 "minute" names := by
  have hfill : (PySem.Challenge.rw_jo0040_02 = PySem.Challenge.rw_jo0040_02) ∧ (Mine.kmake.heap_1 = Mine.kmake.heap_1) := by k_fill; exact ⟨rfl, rfl⟩
  clear hfill
  intro p loose mg mb A s b it tp ns amount length vs Q E hb X0 T0 hI hnt htp hvs hns ham1 ham2 hl0 hl1 hd ret
  obtain ⟨dx, t1, t2, t3, t4, t5, t6, hi1, hi2, hn1, hn2⟩ := hI.ex
  obtain ⟨hjl, hjw⟩ := hnm amount length ⟨ham1, ham2⟩ ⟨hl0, hl1⟩
  clear hnm
  have hjn : JL ns := ⟨Nat.le_trans hns (by decide)⟩
  clear hns
  have hvz : vs.toArray.size ≤ sizeLine := by rw [List.size_toArray, strs_len hvs]; exact Nat.le_trans hnl (by decide)
  have hroom' := hd.d
  have hh := hd.h
  have hu := hd.u
  have X : (Mine.kmake.heap_1 w.params).In (hideAll s.heap [it, dx]) := X0.keeps (hide2 hb hn1 hn2)
  have T : TopRead p loose mg mb (hideAll s.heap [it, dx]) := T0.keeps (hide2 hb hn1 hn2)
  have Xs : (Mine.kmake.heap_1 w.params).In s.heap := X0.keeps hb
  have htp' : (hideAll s.heap [it, dx]).get? tp = some (tupO vs) := hideAll_get _ htp (not_mem2 hi1 hi2 htp (fun e => absurd (congrArg Obj.cls e) (by intro z; cases z)) (fun e => absurd (congrArg Obj.cls e) (by intro z; exact absurd (Value.type.inj z) (by decide))))
  clear X0 T0 hb
  refine wpAny_call ?_
  refine' enter (Wl := [it, dx]) (news := [(it, instObj 501 dx), (dx, dictOf (itDict w ns amount length t1 t2 t3 t4 t5 t6) 3)]) (binds := [("self", .ref it), ("identifiers", .ref tp)]) X T (List.forall_mem_cons.mpr ⟨⟨hi1, by k_mem⟩, List.forall_mem_cons.mpr ⟨⟨hi2, by k_mem⟩, fun _ h => nomatch h⟩⟩) ?ho ?hcd ?hroom ?hbind ?hloc ?_ ?c2 ?c3 ?c4 ?c5
  walk_at "MINE enter"
  intro L' h₁ F N lt
  (try dsimp only [List.reverse, List.reverseAux] at F)
  clear lt Xs
  have ret' : ∀ h' tk' t m news L y, y = Str.join (Str.ofString "/") (names ++ [dig amount, dig length, Str.ofString "minute"]) → Fr (hideAll s.heap [it, dx]) L h' m → News (hideAll s.heap [it, dx]) L h' news → (it, instObj 501 dx) ∈ news → (dx, dictOf (itDict w ns amount length t1 t2 t3 t4 t5 t6) 3) ∈ news → Q (.str (Str.empty ++ ns ++ Str.ofString "/" ++ y) t) { s with heap := h', toks := tk' } :=
    fun h' tk' t m news L y e F N a b => by subst e; exact ret _ _ _ (back_all hi1 hi2 F N a b)
  generalize hg : hideAll s.heap [it, dx] = g at *
  (try k_fold)
  k_steps
  refine' formatField_str ?go ?z; (case z => exact JL.line (by with_reducible assumption)); intro tf tkf
  (try dsimp only)
  refine ⟨JL.line3 (by with_reducible assumption) (by with_reducible assumption), ?_⟩
  refine' joinParts_nil ?_ ?z; rotate_left; exact JL.line3 (by with_reducible assumption) (by with_reducible assumption)
  k_steps
  (refine' ret' _ _ _ _ _ _ _ ?e ?F ?N ?a ?b; (case e => with_reducible assumption); (case F => k_asm); (case N => k_asm); (case a => k_mem); (case b => k_mem))


theorem c_kf2 (w : World) (names : List Str) (hnn : ∀ n ∈ names, Str.length n ≤ 100) (hnl : names.length ≤ 9) (hnm : ∀ x y : Int, 0 ≤ x ∧ x ≤ 1000 → 0 ≤ y ∧ y ≤ 1000 → JL (Str.join (Str.ofString "/") (names ++ [dig x, dig y, Str.ofString "second"])) ∧ JW (names ++ [dig x, dig y, Str.ofString "second"])) (hSs : SafeSC (Mine.kmake.heap_1 w.params) PySem.Challenge.pw_jo0040_02 w) (hSi : SafeIC (Mine.kmake.heap_1 w.params) PySem.Challenge.pw_jo0040_02 w) (hTg : TgK (Mine.kmake.heap_1 w.params) PySem.Challenge.pw_jo0040_02 w 411 515 416 (fun v => ∃ t, v = .str "second" t)) : KfC (Mine.kmake.heap_1 w.params) PySem.Challenge.pw_jo0040_02 w 518 "second" names := by
  have hfill : (PySem.Challenge.rw_jo0040_02 = PySem.Challenge.rw_jo0040_02) ∧ (Mine.kmake.heap_1 = Mine.kmake.heap_1) := by k_fill; exact ⟨rfl, rfl⟩
  clear hfill
  intro p loose mg mb A s b it tp ns amount length vs Q E hb X0 T0 hI hnt htp hvs hns ham1 ham2 hl0 hl1 hd ret
  obtain ⟨dx, t1, t2, t3, t4, t5, t6, hi1, hi2, hn1, hn2⟩ := hI.ex
  obtain ⟨hjl, hjw⟩ := hnm amount length ⟨ham1, ham2⟩ ⟨hl0, hl1⟩
  clear hnm
  have hjn : JL ns := ⟨Nat.le_trans hns (by decide)⟩
  clear hns
  have hvz : vs.toArray.size ≤ sizeLine := by rw [List.size_toArray, strs_len hvs]; exact Nat.le_trans hnl (by decide)
  have hroom' := hd.d
  have hh := hd.h
  have hu := hd.u
  have X : (Mine.kmake.heap_1 w.params).In (hideAll s.heap [it, dx]) := X0.keeps (hide2 hb hn1 hn2)
  have T : TopRead p loose mg mb (hideAll s.heap [it, dx]) := T0.keeps (hide2 hb hn1 hn2)
  have Xs : (Mine.kmake.heap_1 w.params).In s.heap := X0.keeps hb
  have htp' : (hideAll s.heap [it, dx]).get? tp = some (tupO vs) := hideAll_get _ htp (not_mem2 hi1 hi2 htp (fun e => absurd (congrArg Obj.cls e) (by intro z; cases z)) (fun e => absurd (congrArg Obj.cls e) (by intro z; exact absurd (Value.type.inj z) (by decide))))
  clear X0 T0 hb
  refine wpAny_call ?_
  refine' enter (Wl := [it, dx]) (news := [(it, instObj 518 dx), (dx, dictOf (itDict w ns amount length t1 t2 t3 t4 t5 t6) 3)]) (binds := [("self", .ref it), ("identifiers", .ref tp)]) X T (List.forall_mem_cons.mpr ⟨⟨hi1, by k_mem⟩, List.forall_mem_cons.mpr ⟨⟨hi2, by k_mem⟩, fun _ h => nomatch h⟩⟩) ?ho ?hcd ?hroom ?hbind ?hloc ?_ ?c2 ?c3 ?c4 ?c5
  walk_at "MINE enter"
  intro L' h₁ F N lt
  (try dsimp only [List.reverse, List.reverseAux] at F)
  clear lt Xs
  have ret' : ∀ h' tk' t m news L y, y = Str.join (Str.ofString "/") (names ++ [dig amount, dig length, Str.ofString "second"]) → Fr (hideAll s.heap [it, dx]) L h' m → News (hideAll s.heap [it, dx]) L h' news → (it, instObj 518 dx) ∈ news → (dx, dictOf (itDict w ns amount length t1 t2 t3 t4 t5 t6) 3) ∈ news → Q (.str (Str.empty ++ ns ++ Str.ofString "/" ++ y) t) { s with heap := h', toks := tk' } :=
    fun h' tk' t m news L y e F N a b => by subst e; exact ret _ _ _ (back_all hi1 hi2 F N a b)
  generalize hg : hideAll s.heap [it, dx] = g at *
  (try k_fold)
  k_steps
  refine' formatField_str ?go ?z; (case z => exact JL.line (by with_reducible assumption)); intro tf tkf
  (try dsimp only)
  refine ⟨JL.line3 (by with_reducible assumption) (by with_reducible assumption), ?_⟩
  refine' joinParts_nil ?_ ?z; rotate_left; exact JL.line3 (by with_reducible assumption) (by with_reducible assumption)
  k_steps
  (refine' ret' _ _ _ _ _ _ _ ?e ?F ?N ?a ?b; (case e => with_reducible assumption); (case F => k_asm); (case N => k_asm); (case a => k_mem); (case b => k_mem))


theorem c_ws (w : World) : WsC (Mine.kmake.heap_1 w.params) PySem.Challenge.pw_jo0040_02 w := by
  have hfill : (PySem.Challenge.rw_jo0040_02 = PySem.Challenge.rw_jo0040_02) ∧ (Mine.kmake.heap_1 = Mine.kmake.heap_1) := by k_fill; exact ⟨rfl, rfl⟩
  clear hfill
  intro p loose mg mb g0 L0 m0 news0 A s a b Q E F0 N0 X0 T0 hd ret
  have hroom' := hd.d
  have hh := hd.h
  have hu := hd.u
  have hY : ∃ cd, TupC (Mine.kmake.heap_1 w.params) 132 cd := ⟨_, ⟨_, _, _, by k_is, rfl⟩, rfl, rfl, rfl, by k_is, by k_is, by k_is⟩
  obtain ⟨cd, Y⟩ := hY
  refine' call_own Y F0 X0 ?mm ?rr ?ee ?pp ?go
  (case mm => k_is); (case rr => k_is); (case ee => k_is); (case pp => k_is)
  refine wpAny_call ?_
  refine' enter (Wl := []) (news := []) (binds := [("_cls", .ref 132), ("reset_time", a), ("remaining", b)]) (X0.keeps F0.keep) (T0.keeps F0.keep) (fun _ h => nomatch h) ?ho ?hcd ?hroom ?hbind ?hloc ?_ ?c2 ?c3 ?c4 ?c5
  (case ho => k_is); (case hcd => k_is); (case hroom => rw [depth_under_make]; walk_at "MINE om"); (case hbind => exact BindsTo.of_eq rfl); (case c5 => decide); (case hloc => exact locs rfl); (case c2 => exact rfl); (case c3 => exact rfl); (case c4 => exact rfl)
  intro L' h₁ F N lt
  (try dsimp only [List.reverse, List.reverseAux] at F)
  have X := X0.keeps F0.keep
  have T := T0.keeps F0.keep
  have hg : hideAll s.heap [] = s.heap := rfl
  clear lt
  have done : ∀ {h₂ m' tk x dx news'}, Fr s.heap L' h₂ m' → News s.heap L' h₂ ((x, wsO dx a b) :: (dx, emptyDict) :: news') → (@Ne Nat x dx) → ∃ x_1 od dt sl, Value.ref x = Value.ref x_1 ∧ (∀ (b : Addr) (o : Obj), g0.get? b = some o → h₂.get? b = some o) ∧ h₂.get? x_1 = some { cls := Value.ref 132, dict := od, data := dt, slots := sl } ∧ Q (Value.ref x_1) { s with heap := h₂, toks := tk } := fun {h₂ m' tk x dx news'} Fe Ne nxd =>
    ⟨x, some dx, _, #[], rfl, fun b o e => Fe.keep b o (F0.keep b o e), (Ne _ (.head _)).1, ret _ _ _ dx (kept_frame F0 Fe.keep) (fun q hq => by
      rcases List.mem_cons.mp hq with rfl | hq
      · exact fresh_news F0 (kept_news N0 Fe.keep) (Ne _ (.head _)).2.2 (Ne _ (.head _)).1 _ (.head _)
      · exact fresh_news F0 (kept_news N0 Fe.keep) (Ne _ (.tail _ (.head _))).2.2 (Ne _ (.tail _ (.head _))).1 q hq) (fresh_ne N0 (Ne _ (.head _)).2.2) (fresh_ne N0 (Ne _ (.tail _ (.head _))).2.2) nxd Fe.keep (Ne _ (.head _)).2.2 (Ne _ (.tail _ (.head _))).2.2⟩
  rw [hg] at *
  clear hg X0 T0 F0 N0 ret
  generalize s.heap = gx at *
  (try k_fold)
  k_steps
  refine' tup_new_use Y ?F ?N ?X ?m ?z ?_
  (case F => k_asm); (case N => k_asm); (case X => k_asm); (case m => k_mem); (case z => exact Nat.le_of_ble_eq_true rfl)
  intro h9 x9 dx9 F9 N9 _ _ nxd _ _ _
  exact done F9 N9 nxd
theorem c_tgw1 (w : World) : TgW (Mine.kmake.heap_1 w.params) PySem.Challenge.pw_jo0040_02 w 124 (fun a b => a) := by
  have hfill : (PySem.Challenge.rw_jo0040_02 = PySem.Challenge.rw_jo0040_02) ∧ (Mine.kmake.heap_1 = Mine.kmake.heap_1) := by k_fill; exact ⟨rfl, rfl⟩
  clear hfill
  intro p loose mg mb A s x dx a b Q E X T hx hd ret
  have hroom' := hd.d
  have hh := hd.h
  have hu := hd.u
  refine wpAny_call ?_
  refine' enter (Wl := []) (news := []) (binds := [("self", .ref 124), ("obj", .ref x), ("objtype", .ref 132)]) X T (fun _ h => nomatch h) ?ho ?hcd ?hroom ?hbind ?hloc ?_ ?c2 ?c3 ?c4 ?c5
  walk_at "MINE enter"
  intro L' h₁ F N lt
  change Fr s.heap L' h₁ _ at F
  change News s.heap L' h₁ _ at N
  (try dsimp only [List.reverse, List.reverseAux] at F)
  clear lt
  generalize hg : s.heap = g at *
  (try k_fold)
  k_steps
  exact ret _ _ (Fr.keep (by k_asm))
theorem c_tgw2 (w : World) : TgW (Mine.kmake.heap_1 w.params) PySem.Challenge.pw_jo0040_02 w 127 (fun a b => b) := by
  have hfill : (PySem.Challenge.rw_jo0040_02 = PySem.Challenge.rw_jo0040_02) ∧ (Mine.kmake.heap_1 = Mine.kmake.heap_1) := by k_fill; exact ⟨rfl, rfl⟩
  clear hfill
  intro p loose mg mb A s x dx a b Q E X T hx hd ret
  have hroom' := hd.d
  have hh := hd.h
  have hu := hd.u
  refine wpAny_call ?_
  refine' enter (Wl := []) (news := []) (binds := [("self", .ref 127), ("obj", .ref x), ("objtype", .ref 132)]) X T (fun _ h => nomatch h) ?ho ?hcd ?hroom ?hbind ?hloc ?_ ?c2 ?c3 ?c4 ?c5
  walk_at "MINE enter"
  intro L' h₁ F N lt
  change Fr s.heap L' h₁ _ at F
  change News s.heap L' h₁ _ at N
  (try dsimp only [List.reverse, List.reverseAux] at F)
  clear lt
  generalize hg : s.heap = g at *
  (try k_fold)
  k_steps
  exact ret _ _ (Fr.keep (by k_asm))

theorem reg_CL0 : True := by
  k_with_none
  k_with "MINE pj" => (first | with_reducible assumption | exact an0 (by with_reducible assumption) | exact an1 (by with_reducible assumption) | exact an2 (by with_reducible assumption) | exact an3 (by with_reducible assumption) | exact an4 (by with_reducible assumption) | exact an5 (by with_reducible assumption) | exact an6 (by with_reducible assumption) | exact an7 (by with_reducible assumption) | exact an8 (by with_reducible assumption) | exact an9 (by with_reducible assumption) | exact bn1 (by with_reducible assumption) | exact bn2 (by with_reducible assumption) | exact bn3 (by with_reducible assumption) | exact bn4 (by with_reducible assumption) | exact bn5 (by with_reducible assumption) | exact bn6 (by with_reducible assumption) | exact bn7 (by with_reducible assumption) | exact bn8 (by with_reducible assumption))
  k_with "MINE lt" => (first | walk_at "MINE pj" | (with_reducible refine Nat.lt_trans ?_ (by with_reducible assumption); walk_at "MINE lt"))
  k_with "MINE ne" => (with_reducible refine neN ?_; (try dsimp only); first | with_reducible assumption | (refine Ne.symm ?_; with_reducible assumption) | (refine Nat.ne_of_lt ?_; with_reducible assumption) | (refine Nat.ne_of_gt ?_; with_reducible assumption) | (simp only [*, ne_eq, not_false_eq_true]; done) | (refine Ne.symm ?_; (simp only [*, ne_eq, not_false_eq_true]; done)) | (refine Nat.ne_of_lt ?_; (simp only [*]; done)) | (refine Nat.ne_of_gt ?_; (simp only [*]; done)) | assumption | decide | (refine Nat.ne_of_gt ?_; walk_at "MINE lt") | (refine Nat.ne_of_lt ?_; walk_at "MINE lt") | lia | omega)
  k_with "MINE nes" => (repeat' (first | (refine And.intro ?_ ?_) | (with_reducible refine neN ?_; walk_at "MINE ne")))
  k_with "MINE om" => (first | with_reducible assumption | exact Nat.le_of_ble_eq_true rfl | exact an0 (by with_reducible assumption) | exact bn1 (by with_reducible assumption) | exact an1 (by with_reducible assumption) | exact Nat.lt_of_le_of_lt (Nat.le_add_right _ _) (by with_reducible assumption) | exact Int.lt_trans (by with_reducible assumption) (by decide) | exact Int.lt_trans (bn1 (by with_reducible assumption)) (by decide) | exact Int.lt_of_lt_of_le (by decide) (by with_reducible assumption) | exact Int.lt_of_lt_of_le (by decide) (an0 (by with_reducible assumption)) | exact Nat.le_trans (by with_reducible assumption) (by decide) | exact Int.le_of_lt (by with_reducible assumption) | exact Int.le_trans (by with_reducible assumption) (by decide) | exact Int.lt_of_le_of_lt (by with_reducible assumption) (by decide) | decide | (walk_at "MINE nes"; done) | lia | omega)
  k_with "getMethod ref" => (k_here; k_dflt (refine' dMethI ?N_0 ?m_0 ?d_0 ?i_0 ?_; (case N_0 => k_asm); (case m_0 => k_mem); (case d_0 => k_asm); (case i_0 => exact rfl); k_whole))
  k_with "call builtin:dict.get" => (k_here; k_dflt (refine' dGetI ?N_1 ?m_1 ?d_1 ?lo_1 ?_; (case N_1 => k_asm); (case m_1 => k_mem); (case d_1 => k_asm); (case lo_1 => k_asm); k_whole; intro t'K))
  k_with "call builtin:dict.pop" => (k_here; k_dflt (refine' dPopI ?F_2 ?N_2 ?U_2 ?d_2 ?lo_2 ?z_2 ?_; (case F_2 => k_asm); (case N_2 => k_asm); (case U_2 => k_updF); (case d_2 => k_asm); (case lo_2 => k_asm); (case z_2 => walk_at "MINE om"); k_whole; intro h'K o'K v'K F'K N'K hd'K; (try dsimp only at N'K); (try k_sweep)))
  k_with "getMethod ref" => (k_here; k_dflt (refine' dMethV ?N_3 ?m_3 ?d_3 ?i_3 ?_; (case N_3 => k_asm); (case m_3 => k_mem); (case d_3 => k_asm); (case i_3 => exact rfl); k_whole))
  k_with "call builtin:dict.pop" => (k_here; k_dflt (refine' dPopV ?F_4 ?N_4 ?U_4 ?d_4 ?lo_4 ?z_4 ?_; (case F_4 => k_asm); (case N_4 => k_asm); (case U_4 => k_updF); (case d_4 => k_asm); (case lo_4 => k_asm); (case z_4 => walk_at "MINE om"); k_whole; intro h'K o'K v'K F'K N'K hd'K; (try dsimp only at N'K); (try k_sweep)))
  k_with "setItem ref str" => (k_here; k_dflt (refine' dSetI ?F_5 ?N_5 ?U_5 ?d_5 ?z_5 ?_; (case F_5 => k_asm); (case N_5 => k_asm); (case U_5 => k_updF); (case d_5 => k_asm); (case z_5 => walk_at "MINE om"); k_whole; intro h'K o'K F'K N'K hd'K; (try dsimp only at N'K); (try k_sweep)))
  k_with "subscriptTail" => (k_here; (with_reducible show wpAny _ _ (subscriptTail _ _ (Value.ref _) (Value.str _ _)) _ _ _); k_dflt (refine' dTailI ?N_6 ?m_6 ?d_6 ?_; (case N_6 => k_asm); (case m_6 => k_mem); (case d_6 => k_asm); k_whole))
  k_with "getItem ref str" => (k_here; k_dflt (refine' dItemI ?N_7 ?m_7 ?d_7 ?v_7 ?_; (case N_7 => k_asm); (case m_7 => k_mem); (case d_7 => k_asm); (case v_7 => first | k_asm | exact if_pos rfl); k_whole; intro t'K))
  k_with "getAttr ref" => (k_here; k_dflt (refine' getOwnG ?k1_8 ?k2_8 ?i1_8 ?i2_8 ?k4_8 ?k5_8 ?k6_8 ?k7_8 ?k8_8 ?k9_8 ?_; (case k1_8 => k_asm); (case k2_8 => k_asm); (case i1_8 => k_asm); (case i2_8 => k_asm); (case k4_8 => k_is); (case k5_8 => k_is); (case k6_8 => k_is); (case k7_8 => k_is); (case k8_8 => k_get); (case k9_8 => k_handed); k_whole))
  k_with "getMethod ref" => (k_here; k_dflt (refine' methG ?k1_9 ?k2_9 ?i1_9 ?i2_9 ?k4_9 ?k5_9 ?k6_9 ?k7_9 ?_; (case k1_9 => k_asm); (case k2_9 => k_asm); (case i1_9 => k_asm); (case i2_9 => k_asm); (case k4_9 => k_is); (case k5_9 => k_is); (case k6_9 => k_is); (case k7_9 => k_get); k_whole))
  k_with "getMethod ref" => (k_here; k_dflt (refine' kmuOwnG ?k1_10 ?k2_10 ?i1_10 ?i2_10 ?k4_10 ?k5_10 ?_; (case k1_10 => k_asm); (case k2_10 => k_asm); (case i1_10 => k_asm); (case i2_10 => k_asm); (case k4_10 => k_is); (case k5_10 => k_is); k_whole))
  k_with "callWith ref" => (k_here; (with_reducible show wpAny _ _ (callWith _ (Value.ref _) [] (backTo _ (starEach [] _)) []) _ _ _); k_dflt (refine' callFn0 ?k1_11 ?k2_11 ?_; (case k1_11 => k_asm); (case k2_11 => k_asm); k_whole))
  k_with "callWith ref" => (k_here; (with_reducible show wpAny _ _ (callWith _ (Value.ref _) _ (backTo _ (starEach (_ :: _) _)) []) _ _ _); k_dflt (first | (refine' callWith_K ?k1_12 ?k2_12 ?_; (case k1_12 => k_asm); (case k2_12 => k_is); k_whole) | (refine' callWith_M ?k1_12 ?k2_12 ?k3_12 ?k4_12 ?_; (case k1_12 => k_asm); (case k2_12 => k_asm); (case k3_12 => k_mem); (case k4_12 => k_is); k_whole)))
  k_with "MINE room" => (first | assumption | exact ArOk.down (by assumption) (by walk_at "MINE om"))
  k_with "call ref" => (k_here; k_dflt (refine' clk_use ?C_14 ?F_14 ?N_14 ?d_14 ?_; (case C_14 => k_asm); (case F_14 => k_asm); (case N_14 => k_asm); (case d_14 => walk_at "MINE room"); k_whole; intro h'K tk'K t'K F'K N'K; (try k_sweep)))
  k_with "call ref" => (k_here; (with_reducible show wpAny _ _ (call (Value.ref 616) _) _ _ _); k_dflt (refine' get_use ?C_15 ?ok_15 ?F_15 ?N_15 ?ms_15 ?me_15 ?mv_15 ?U1_15 ?U2_15 ?U3_15 ?X_15 ?T_15 ?I_15 ?hS_15 ?hE_15 ?hc_15 ?hd_15 ?_; (case C_15 => k_asm); (case ok_15 => k_asm); (case F_15 => k_asm); (case N_15 => k_asm); (case ms_15 => k_mem); (case me_15 => k_mem); (case mv_15 => k_mem); (case U1_15 => k_updF); (case U2_15 => (intro xK; k_updF)); (case U3_15 => (intro xK yK; k_updF)); (case X_15 => k_asm); (case T_15 => k_asm); (case I_15 => k_asm); (case hS_15 => k_asm); (case hE_15 => k_asm); (case hc_15 => walk_at "MINE om"); (case hd_15 => walk_at "MINE room"); k_whole; intro h'K tk'K t'K os'K oe'K F'K N'K hS'K hE'K; (try dsimp only at N'K); (try k_sweep)))
  k_with "MINE enter" => (
  (case ho => k_is); (case hcd => k_is); (case hroom => walk_at "MINE om"); (case hbind => first | exact BindsTo.of_eq rfl | exact binds_K (by k_in) rfl (by k_is) rfl rfl rfl);
  (case c5 => decide); (case hloc => exact locs rfl); (case c2 => exact rfl); (case c3 => exact rfl); (case c4 => exact rfl))
  k_with "MINE exit" => ((case F => k_asm); (case N => k_asm); (case a => k_mem); (case b => k_mem); (case c => k_mem))
  k_with "formatField int" => (k_here; (with_reducible show wpAny _ _ (formatField (Value.int _ _) _) _ _ _); k_dflt (refine' fmtI ?a_18 ?b_18 ?_; (case a_18 => walk_at "MINE om"); (case b_18 => walk_at "MINE om"); k_whole; intro hy'K t'K))
  k_with "And" => ((with_reducible show PySem.Str.length (_ ++ _) ≤ sizeLine ∧ wpAny _ _ (joinParts _ _) _ _ _); refine ⟨?a_19, ?_⟩; (case a_19 => (simp only [Str.length_append, Str.empty_append, slk_one, sizeLine_eq]; walk_at "MINE om")))
  k_with "getMethod ref" => (k_here; k_dflt (refine' kmuCmG ?k1_20 ?k2_20 ?k3_20 ?i1_20 ?i2_20 ?k5_20 ?k6_20 ?k7_20 ?k8_20 ?k9_20 ?k10_20 ?k11_20 ?k12_20 ?k13_20 ?_; (case k1_20 => k_asm); (case k2_20 => k_asm); (case k3_20 => k_asm); (case i1_20 => k_asm); (case i2_20 => k_asm); (case k5_20 => k_is); (case k6_20 => k_is); (case k7_20 => k_is); (case k8_20 => k_is); (case k9_20 => k_is); (case k10_20 => k_is); (case k11_20 => decide +kernel); (case k12_20 => k_get); (case k13_20 => k_is); k_whole; intro q'K h'K F'K N'K l1K; (try k_lt l1K); (try k_sweep)))
  k_with "call ref" => (k_here; k_dflt (refine' keys_use ?C_21 ?F_21 ?N_21 ?q_21 ?X_21 ?T_21 ?h0_21 ?h1_21 ?h2_21 ?hk_21 ?hd_21 ?_; (case C_21 => k_asm); (case F_21 => k_asm); (case N_21 => k_asm); (case q_21 => k_mem); (case X_21 => k_asm); (case T_21 => k_asm); (case h0_21 => walk_at "MINE om"); (case h1_21 => walk_at "MINE om"); (case h2_21 => walk_at "MINE om"); (case hk_21 => assumption); (case hd_21 => walk_at "MINE room"); k_whole; intro h'K tk'K tp'K u1K u2K F'K N'K l1K; (try simp only [List.forall_mem_cons, List.not_mem_nil, false_implies, implies_true, and_true] at l1K); (try k_sweep)))
  k_with "call ref" => (k_here; (with_reducible show wpAny _ _ (call (Value.ref 660) _) _ _ _); k_dflt (refine' info_use ?C_22 ?ok_22 ?F_22 ?N_22 ?ms_22 ?me_22 ?mv_22 ?U1_22 ?U2_22 ?U3_22 ?X_22 ?T_22 ?I_22 ?hV_22 ?hS_22 ?hE_22 ?hc_22 ?h0_22 ?hd_22 ?_; (case C_22 => k_asm); (case ok_22 => k_asm); (case F_22 => k_asm); (case N_22 => k_asm); (case ms_22 => k_mem); (case me_22 => k_mem); (case mv_22 => k_mem); (case U1_22 => k_updF); (case U2_22 => (intro xK; k_updF)); (case U3_22 => (intro xK yK; k_updF)); (case X_22 => k_asm); (case T_22 => k_asm); (case I_22 => k_asm); (case hV_22 => k_asm); (case hS_22 => k_asm); (case hE_22 => k_asm); (case hc_22 => walk_at "MINE om"); (case h0_22 => walk_at "MINE om"); (case hd_22 => walk_at "MINE room"); k_whole; intro h'K tk'K os'K oe'K tp'K u1K u2K u3K u4K F'K N'K l1K hS'K hE'K; (try simp only [List.forall_mem_cons, List.not_mem_nil, false_implies, implies_true, and_true] at l1K); (try dsimp only at N'K); (try k_sweep)))
  k_with "call ref" => (k_here; (with_reducible show wpAny _ _ (call (Value.ref 601) _ _) _ _ _); k_dflt (refine' incr_use ?C_23 ?ok_23 ?F_23 ?N_23 ?ms_23 ?me_23 ?mv_23 ?U1_23 ?U2_23 ?U3_23 ?X_23 ?T_23 ?I_23 ?hS_23 ?hE_23 ?hc_23 ?hd_23 ?_; (case C_23 => k_asm); (case ok_23 => k_asm); (case F_23 => k_asm); (case N_23 => k_asm); (case ms_23 => k_mem); (case me_23 => k_mem); (case mv_23 => k_mem); (case U1_23 => k_updF); (case U2_23 => (intro xK; k_updF)); (case U3_23 => (intro xK yK; k_updF)); (case X_23 => k_asm); (case T_23 => k_asm); (case I_23 => k_asm); (case hS_23 => k_asm); (case hE_23 => k_asm); (case hc_23 => walk_at "MINE om"); (case hd_23 => walk_at "MINE room"); k_whole; intro h'K tk'K t'K os'K oe'K F'K N'K hS'K hE'K; (try dsimp only at N'K); (try k_sweep)))
  k_with "call ref" => (k_here; (with_reducible show wpAny _ _ (call (Value.ref 623) _) _ _ _); k_dflt (refine' clear_use ?C_24 ?ok_24 ?F_24 ?N_24 ?ms_24 ?me_24 ?mv_24 ?U1_24 ?U2_24 ?U3_24 ?X_24 ?T_24 ?I_24 ?hS_24 ?hE_24 ?hV_24 ?hc_24 ?hd_24 ?_; (case C_24 => k_asm); (case ok_24 => k_asm); (case F_24 => k_asm); (case N_24 => k_asm); (case ms_24 => k_mem); (case me_24 => k_mem); (case mv_24 => k_mem); (case U1_24 => k_updF); (case U2_24 => (intro xK; k_updF)); (case U3_24 => (intro xK yK; k_updF)); (case X_24 => k_asm); (case T_24 => k_asm); (case I_24 => k_asm); (case hS_24 => k_asm); (case hE_24 => k_asm); (case hV_24 => k_asm); (case hc_24 => walk_at "MINE om"); (case hd_24 => walk_at "MINE room"); k_whole; intro h'K tk'K os'K oe'K ov'K F'K N'K hS'K hE'K hV'K; (try dsimp only at N'K); (try k_sweep)))
  k_with "assign Tuple" => (k_here; (with_reducible show wpAny _ _ (assign (Expr.Tuple _ _ _) _ (Value.ref _)) _ _ _); k_dflt (refine' unpackN_ ?k1_25 ?k2_25 ?k3_25 ?k4_25 ?k5_25 ?k6_25 ?_; (case k1_25 => k_asm); (case k2_25 => k_asm); (case k3_25 => kun_tup); (case k4_25 => assumption); (case k5_25 => exact rfl); (case k6_25 => exact rfl); k_whole); intro h'K F'K N'K; (try k_sweep))
  k_with "binaryOp Mult int int" => (k_here; (first | refine PySem.mul_int ?_ (hm := IntMulOk.of_left (intBits_le_64 (by walk_at "MINE om") (by walk_at "MINE om"))) | refine PySem.mul_int ?_ (hm := IntMulOk.of_right (intBits_le_64 (by walk_at "MINE om") (by walk_at "MINE om")))))
  k_with "MINE get" => first | (refine' Fr.keep ?fr_27 _ _ ?gt_27; (case fr_27 => k_asm); (case gt_27 => assumption)) | (refine' Fr.keep ?fr_27 _ _ (Below.stays ?kb_27 _ _ ?bt_27); (case fr_27 => k_asm); (case kb_27 => assumption); (case bt_27 => assumption)) | (refine' news_at ?nn_27 ?mm_27; (case nn_27 => k_asm); (case mm_27 => k_mem))
  k_with "MINE stays" => first | exact Below.stays (by assumption) | assumption
  k_with "getAttr ref" => (k_here; (refine' it_amount ?I_29 ?F_29 ?X_29 ?B_29 ?_; (case I_29 => assumption); (case F_29 => k_asm); (case X_29 => k_asm); (case B_29 => walk_at "MINE stays"); k_whole; intro t'K))
  k_with "getMethod ref" => (k_here; (refine' it_kmeth ?I_30 ?F_30 ?X_30 ?B_30 ?_; (case I_30 => assumption); (case F_30 => k_asm); (case X_30 => k_asm); (case B_30 => walk_at "MINE stays"); k_whole))
  k_with "getMethod ref" => (k_here; (refine' it_gmeth ?I_31 ?F_31 ?X_31 ?B_31 ?_; (case I_31 => assumption); (case F_31 => k_asm); (case X_31 => k_asm); (case B_31 => walk_at "MINE stays"); k_whole))
  k_with "call ref" => (k_here; (with_reducible show wpAny _ _ (call (Value.ref 458) _) _ _ _); (refine' it_kf ?I_32 ?F_32 ?N_32 ?B_32 ?d_32 ?_; (case I_32 => assumption); (case F_32 => k_asm); (case N_32 => k_asm); (case B_32 => walk_at "MINE stays"); (case d_32 => walk_at "MINE room"); k_whole; intro h'K tk'K t'K F'K N'K; (try k_sweep)))
  k_with "call ref" => (k_here; (with_reducible show wpAny _ _ (call (Value.ref 451) _) _ _ _); (refine' it_ge ?I_33 ?F_33 ?N_33 ?B_33 ?d_33 ?_; (case I_33 => assumption); (case F_33 => k_asm); (case N_33 => k_asm); (case B_33 => walk_at "MINE stays"); (case d_33 => walk_at "MINE room"); k_whole; intro h'K tk'K t'K F'K N'K; (try k_sweep)))
  k_with "call ref" => (k_here; (with_reducible show wpAny _ _ (call (Value.ref 132) _) _ _ _); (refine' (by assumption : WsC _ _ _) _ _ _ _ _ _ _ _ _ _ _ _ _ _ ?F_34 ?N_34 ?X_34 ?T_34 ?d_34 ?_; (case F_34 => k_asm); (case N_34 => k_asm); (case X_34 => k_asm); (case T_34 => k_asm); (case d_34 => walk_at "MINE room"); k_whole; intro h'K tk'K x'K dx'K F'K N'K l1K l2K l3K k1K k2K k3K; (try simp only [List.forall_mem_cons, List.not_mem_nil, false_implies, implies_true, and_true] at l1K); (try simp only [List.forall_mem_cons, List.not_mem_nil, false_implies, implies_true, and_true] at l2K); (try k_sweep)))
  k_with "call builtin:max" => (k_here; (refine' max2 ?h_35 ?F_35 ?N_35 ?_; (case h_35 => assumption); (case F_35 => k_asm); (case N_35 => k_asm); k_whole; intro h'K tk'K t'K F'K N'K; (try k_sweep)))
  k_with "call builtin:min" => (k_here; (refine' min2 ?h_36 ?F_36 ?N_36 ?_; (case h_36 => assumption); (case F_36 => k_asm); (case N_36 => k_asm); k_whole; intro h'K tk'K t'K F'K N'K; (try k_sweep)))
  k_with "call ref" => (k_here; (with_reducible show wpAny _ _ (call (Value.ref 638) _) _ _ _); (refine' getexp_use ?C_37 ?ok_37 ?F_37 ?N_37 ?ms_37 ?me_37 ?mv_37 ?U1_37 ?U2_37 ?U3_37 ?X_37 ?T_37 ?I_37 ?hE_37 ?hc_37 ?hd_37 ?_; (case C_37 => k_asm); (case ok_37 => k_asm); (case F_37 => k_asm); (case N_37 => k_asm); (case ms_37 => k_mem); (case me_37 => k_mem); (case mv_37 => k_mem); (case U1_37 => k_updF); (case U2_37 => (intro xK; k_updF)); (case U3_37 => (intro xK yK; k_updF)); (case X_37 => k_asm); (case T_37 => k_asm); (case I_37 => k_asm); (case hE_37 => k_asm); (case hc_37 => walk_at "MINE om"); (case hd_37 => walk_at "MINE room"); k_whole; intro h'K tk'K t'K F'K N'K; (try dsimp only at N'K); (try k_sweep)))
  k_with "call ref" => (k_here; (with_reducible show wpAny _ _ (call (Value.ref 667) _) _ _ _); (refine' getsw_use ?C_38 ?ok_38 ?F_38 ?N_38 ?ms_38 ?me_38 ?mv_38 ?U1_38 ?U2_38 ?U3_38 ?X_38 ?T_38 ?I_38 ?hV_38 ?hS_38 ?hE_38 ?hc_38 ?h0_38 ?h1_38 ?h2_38 ?hk_38 ?hd_38 ?_; (case C_38 => k_asm); (case ok_38 => k_asm); (case F_38 => k_asm); (case N_38 => k_asm); (case ms_38 => k_mem); (case me_38 => k_mem); (case mv_38 => k_mem); (case U1_38 => k_updF); (case U2_38 => (intro xK; k_updF)); (case U3_38 => (intro xK yK; k_updF)); (case X_38 => k_asm); (case T_38 => k_asm); (case I_38 => k_asm); (case hV_38 => exact VObj.cls (by assumption)); (case hS_38 => k_asm); (case hE_38 => k_asm); (case hc_38 => walk_at "MINE om"); (case h0_38 => walk_at "MINE om"); (case h1_38 => walk_at "MINE om"); (case h2_38 => walk_at "MINE om"); (case hk_38 => assumption); (case hd_38 => walk_at "MINE room"); k_whole; intro h'K tk'K os'K oe'K tp'K u1K u2K u3K u4K F'K N'K l1K hS'K hE'K; (try simp only [List.forall_mem_cons, List.not_mem_nil, false_implies, implies_true, and_true] at l1K); (try dsimp only at N'K); (try k_sweep)))
  k_with "call ref" => (k_here; (with_reducible show wpAny _ _ (call (Value.ref 674) _) _ _ _); (refine' clearsw_use ?C_39 ?ok_39 ?F_39 ?N_39 ?ms_39 ?me_39 ?mv_39 ?U1_39 ?U2_39 ?U3_39 ?X_39 ?T_39 ?I_39 ?hS_39 ?hE_39 ?hV_39 ?hc_39 ?h0_39 ?h1_39 ?h2_39 ?hk_39 ?hd_39 ?_; (case C_39 => k_asm); (case ok_39 => k_asm); (case F_39 => k_asm); (case N_39 => k_asm); (case ms_39 => k_mem); (case me_39 => k_mem); (case mv_39 => k_mem); (case U1_39 => k_updF); (case U2_39 => (intro xK; k_updF)); (case U3_39 => (intro xK yK; k_updF)); (case X_39 => k_asm); (case T_39 => k_asm); (case I_39 => k_asm); (case hS_39 => k_asm); (case hE_39 => k_asm); (case hV_39 => k_asm); (case hc_39 => walk_at "MINE om"); (case h0_39 => walk_at "MINE om"); (case h1_39 => walk_at "MINE om"); (case h2_39 => walk_at "MINE om"); (case hk_39 => assumption); (case hd_39 => walk_at "MINE room"); k_whole; intro h'K tk'K os'K oe'K ov'K F'K N'K hS'K hE'K hV'K; (try dsimp only at N'K); (try k_sweep)))
  k_with "call ref" => (k_here; (with_reducible show wpAny _ _ (call (Value.ref 653) _) _ _ _); (refine' acqsw_use ?C_40 ?ok_40 ?F_40 ?N_40 ?ms_40 ?me_40 ?mv_40 ?U1_40 ?U2_40 ?U3_40 ?X_40 ?T_40 ?I_40 ?hV_40 ?hS_40 ?hE_40 ?hc_40 ?h0_40 ?h1_40 ?h2_40 ?hk_40 ?hb_40 ?hd_40 ?_; (case C_40 => k_asm); (case ok_40 => k_asm); (case F_40 => k_asm); (case N_40 => k_asm); (case ms_40 => k_mem); (case me_40 => k_mem); (case mv_40 => k_mem); (case U1_40 => k_updF); (case U2_40 => (intro xK; k_updF)); (case U3_40 => (intro xK yK; k_updF)); (case X_40 => k_asm); (case T_40 => k_asm); (case I_40 => k_asm); (case hV_40 => exact VObj.cls (by assumption)); (case hS_40 => k_asm); (case hE_40 => k_asm); (case hc_40 => walk_at "MINE om"); (case h0_40 => walk_at "MINE om"); (case h1_40 => walk_at "MINE om"); (case h2_40 => walk_at "MINE om"); (case hk_40 => assumption); (case hb_40 => assumption); (case hd_40 => walk_at "MINE room"); k_whole; intro h'K tk'K os'K oe'K F'K N'K hS'K hE'K; (try dsimp only at N'K); (try k_sweep)))
  k_with "call ref" => (k_here; (with_reducible show wpAny _ _ (call (Value.ref 257) _) _ _ _); (refine' (by assumption : WcC _ _ _) _ _ _ _ _ _ _ _ _ _ _ _ _ _ _ _ _ _ _ _ _ _ _ _ _ ?F_41 ?N_41 ?X_41 ?T_41 ?B_41 ?I_41 ?a_41 ?b_41 ?c_41 ?e_41 ?d_41 ?_; (case I_41 => assumption); (case F_41 => k_asm); (case N_41 => k_asm); (case X_41 => k_asm); (case T_41 => k_asm); (case B_41 => walk_at "MINE stays"); (case a_41 => walk_at "MINE om"); (case b_41 => walk_at "MINE om"); (case c_41 => walk_at "MINE om"); (case e_41 => walk_at "MINE om"); (case d_41 => walk_at "MINE room"); k_whole; intro h'K tk'K t'K F'K N'K; (try k_sweep)))
  k_with "eval Name" => (k_here; k_dflt (refine' nameX_L ?F_zn ?v_zn ?_ ?a_zn ?b_zn; (case F_zn => k_asm); (case a_zn => rfl); (case b_zn => rfl); (case v_zn => rfl); k_whole))
  trivial

theorem c_hit0 (w : World) (hIncr : IncrC (Mine.kmake.heap_1 w.params) PySem.Challenge.pw_jo0040_02 w) : LimK (Mine.kmake.heap_1 w.params) PySem.Challenge.pw_jo0040_02 w 220 241 b4 1 hit0S (fun σ now key amount ex cost v _ _ => isB (hit0R σ now key amount ex cost) v) := by
  have hfill : (PySem.Challenge.rw_jo0040_02 = PySem.Challenge.rw_jo0040_02) ∧ (Mine.kmake.heap_1 = Mine.kmake.heap_1) := by k_fill; exact ⟨rfl, rfl⟩
  clear hfill
  intro p loose mean mg mb S now O A s base outer lim it tp key amount ex cost tc σ c lg args Q P hLim I hen hnow hc0 hc1 hcc hb hd ret
  obtain ⟨Z, KB, hs, he, hv, ht, ht5, D⟩ := id P
  obtain ⟨ok, o5, XB, TBp, C1, C2, IB, hlgb⟩ := id Z
  have TB := topRead_of TBp
  obtain ⟨n1, n2, n3, l1, l2, l3, b1⟩ := id ok
  obtain ⟨n4, n5⟩ := id o5
  obtain ⟨dl, tl, hl1, hl2⟩ := hLim
  have X : (Mine.kmake.heap_1 w.params).In (hideAll s.heap S.M) := XB.keeps KB.stays
  have T : TopRead p loose mg mb (hideAll s.heap S.M) := TB.keeps KB.stays
  have Tp : Top p loose mean mg mb (hideAll s.heap S.M) := TBp.keeps KB.stays
  have II : StI PySem.Challenge.pw_jo0040_02 w (hideAll s.heap S.M) S now := IB.keeps KB.stays
  have hroom' := hd.d
  have hh := hd.h
  have hu := hd.u
  have hSd := D.s
  have hEd := D.e
  have hVd := D.v
  have hbd := D.b
  have hS0 := D.hc
  have hex := I.hx
  have ham := I.ha
  have hkl : key.length ≤ 1000 := Nat.le_trans I.hk (by decide)
  refine' enter (Wl := S.M) (news := five S O) (binds := b4 lim it tp cost tc) X T P.own ?ho ?hcd ?hroom ?hbind ?hloc ?_ ?c2 ?c3 ?c4 ?c5
  (case ho => k_is); (case hcd => k_is); (case hroom => walk_at "MINE om"); (case hbind => exact hb _ _ _ _ (by k_is)); (case c5 => decide); (case hloc => exact locs rfl); (case c2 => exact rfl); (case c3 => exact rfl); (case c4 => exact rfl)
  intro L' h₁ F N lt
  (try dsimp only [List.reverse, List.reverseAux] at F)
  clear hs he hv ht ht5 lt
  generalize hg : hideAll s.heap S.M = g at *
  have i1 := II.i1
  have i2 := II.i2
  obtain ⟨fcc, fcd, fcf, fcs, hfc⟩ := II.fn
  have hnb := II.bnd
  have gl1 : g.get? lim = some _ := KB.stays _ _ hl1
  have gl2 : g.get? dl = some _ := KB.stays _ _ hl2
  (try k_fold)
  k_steps
  (refine' ret _ _ _ _ [] g (aft_at hg KtsTurn.refl ?F ?N ?mt ?m5 ?ms ?me ?mv (fun _ h => nomatch h) ?_) ?_; (case F => k_asm); (case N => k_asm); (case mt => k_mem); (case m5 => k_mem); (case ms => k_mem); (case me => k_mem); (case mv => k_mem))
  · exact ⟨by assumption, by assumption, hVd.le (Nat.le_succ _), D.t, D.t5, hbd.incr (by walk_at "MINE om") (by walk_at "MINE om") (by walk_at "MINE om") (by walk_at "MINE om"), by walk_at "MINE om"⟩
  · exact rfl
theorem c_test0 (w : World) (hGet : GetC (Mine.kmake.heap_1 w.params) PySem.Challenge.pw_jo0040_02 w) : LimK (Mine.kmake.heap_1 w.params) PySem.Challenge.pw_jo0040_02 w 229 241 b4 0 (fun σ now key _ _ _ => sGetS σ now key) (fun σ now key amount ex cost v _ _ => isB (test0R σ now key amount ex cost) v) := by
  have hfill : (PySem.Challenge.rw_jo0040_02 = PySem.Challenge.rw_jo0040_02) ∧ (Mine.kmake.heap_1 = Mine.kmake.heap_1) := by k_fill; exact ⟨rfl, rfl⟩
  clear hfill
  intro p loose mean mg mb S now O A s base outer lim it tp key amount ex cost tc σ c lg args Q P hLim I hen hnow hc0 hc1 hcc hb hd ret
  obtain ⟨Z, KB, hs, he, hv, ht, ht5, D⟩ := id P
  obtain ⟨ok, o5, XB, TBp, C1, C2, IB, hlgb⟩ := id Z
  have TB := topRead_of TBp
  obtain ⟨n1, n2, n3, l1, l2, l3, b1⟩ := id ok
  obtain ⟨n4, n5⟩ := id o5
  obtain ⟨dl, tl, hl1, hl2⟩ := hLim
  have X : (Mine.kmake.heap_1 w.params).In (hideAll s.heap S.M) := XB.keeps KB.stays
  have T : TopRead p loose mg mb (hideAll s.heap S.M) := TB.keeps KB.stays
  have Tp : Top p loose mean mg mb (hideAll s.heap S.M) := TBp.keeps KB.stays
  have II : StI PySem.Challenge.pw_jo0040_02 w (hideAll s.heap S.M) S now := IB.keeps KB.stays
  have hroom' := hd.d
  have hh := hd.h
  have hu := hd.u
  have hSd := D.s
  have hEd := D.e
  have hVd := D.v
  have hbd := D.b
  have hS0 := D.hc
  have hex := I.hx
  have ham := I.ha
  have hkl : key.length ≤ 1000 := Nat.le_trans I.hk (by decide)
  refine' enter (Wl := S.M) (news := five S O) (binds := b4 lim it tp cost tc) X T P.own ?ho ?hcd ?hroom ?hbind ?hloc ?_ ?c2 ?c3 ?c4 ?c5
  (case ho => k_is); (case hcd => k_is); (case hroom => walk_at "MINE om"); (case hbind => exact hb _ _ _ _ (by k_is)); (case c5 => decide); (case hloc => exact locs rfl); (case c2 => exact rfl); (case c3 => exact rfl); (case c4 => exact rfl)
  intro L' h₁ F N lt
  (try dsimp only [List.reverse, List.reverseAux] at F)
  clear hs he hv ht ht5 lt
  generalize hg : hideAll s.heap S.M = g at *
  have i1 := II.i1
  have i2 := II.i2
  obtain ⟨fcc, fcd, fcf, fcs, hfc⟩ := II.fn
  have hnb := II.bnd
  have gl1 : g.get? lim = some _ := KB.stays _ _ hl1
  have gl2 : g.get? dl = some _ := KB.stays _ _ hl2
  (try k_fold)
  k_steps
  (refine' ret _ _ _ _ [] g (aft_at hg KtsTurn.refl ?F ?N ?mt ?m5 ?ms ?me ?mv (fun _ h => nomatch h) ?_) ?_; (case F => k_asm); (case N => k_asm); (case mt => k_mem); (case m5 => k_mem); (case ms => k_mem); (case me => k_mem); (case mv => k_mem))
  · exact ⟨by assumption, by assumption, hVd, D.t, D.t5, hbd.get, by walk_at "MINE om"⟩
  · exact rfl
theorem c_clear0 (w : World) (hClear : ClearC (Mine.kmake.heap_1 w.params) PySem.Challenge.pw_jo0040_02 w) : LimK (Mine.kmake.heap_1 w.params) PySem.Challenge.pw_jo0040_02 w 158 241 b3 0 (fun σ _ key _ _ _ => sClr σ key) (fun _ _ _ _ _ _ v _ _ => v = .none) := by
  have hfill : (PySem.Challenge.rw_jo0040_02 = PySem.Challenge.rw_jo0040_02) ∧ (Mine.kmake.heap_1 = Mine.kmake.heap_1) := by k_fill; exact ⟨rfl, rfl⟩
  clear hfill
  intro p loose mean mg mb S now O A s base outer lim it tp key amount ex cost tc σ c lg args Q P hLim I hen hnow hc0 hc1 hcc hb hd ret
  obtain ⟨Z, KB, hs, he, hv, ht, ht5, D⟩ := id P
  obtain ⟨ok, o5, XB, TBp, C1, C2, IB, hlgb⟩ := id Z
  have TB := topRead_of TBp
  obtain ⟨n1, n2, n3, l1, l2, l3, b1⟩ := id ok
  obtain ⟨n4, n5⟩ := id o5
  obtain ⟨dl, tl, hl1, hl2⟩ := hLim
  have X : (Mine.kmake.heap_1 w.params).In (hideAll s.heap S.M) := XB.keeps KB.stays
  have T : TopRead p loose mg mb (hideAll s.heap S.M) := TB.keeps KB.stays
  have Tp : Top p loose mean mg mb (hideAll s.heap S.M) := TBp.keeps KB.stays
  have II : StI PySem.Challenge.pw_jo0040_02 w (hideAll s.heap S.M) S now := IB.keeps KB.stays
  have hroom' := hd.d
  have hh := hd.h
  have hu := hd.u
  have hSd := D.s
  have hEd := D.e
  have hVd := D.v
  have hbd := D.b
  have hS0 := D.hc
  have hex := I.hx
  have ham := I.ha
  have hkl : key.length ≤ 1000 := Nat.le_trans I.hk (by decide)
  refine' enter (Wl := S.M) (news := five S O) (binds := b3 lim it tp cost tc) X T P.own ?ho ?hcd ?hroom ?hbind ?hloc ?_ ?c2 ?c3 ?c4 ?c5
  (case ho => k_is); (case hcd => k_is); (case hroom => walk_at "MINE om"); (case hbind => exact hb _ _ _ _ (by k_is)); (case c5 => decide); (case hloc => exact locs rfl); (case c2 => exact rfl); (case c3 => exact rfl); (case c4 => exact rfl)
  intro L' h₁ F N lt
  (try dsimp only [List.reverse, List.reverseAux] at F)
  clear hs he hv ht ht5 lt
  generalize hg : hideAll s.heap S.M = g at *
  have i1 := II.i1
  have i2 := II.i2
  obtain ⟨fcc, fcd, fcf, fcs, hfc⟩ := II.fn
  have hnb := II.bnd
  have gl1 : g.get? lim = some _ := KB.stays _ _ hl1
  have gl2 : g.get? dl = some _ := KB.stays _ _ hl2
  (try k_fold)
  k_steps
  (refine' ret _ _ _ _ [] g (aft_at hg KtsTurn.refl ?F ?N ?mt ?m5 ?ms ?me ?mv (fun _ h => nomatch h) ?_) ?_; (case F => k_asm); (case N => k_asm); (case mt => k_mem); (case m5 => k_mem); (case ms => k_mem); (case me => k_mem); (case mv => k_mem))
  · exact ⟨by assumption, by assumption, by assumption, D.t, D.t5, hbd.era, by walk_at "MINE om"⟩
  · exact rfl
theorem c_stats0 (w : World) (hGet : GetC (Mine.kmake.heap_1 w.params) PySem.Challenge.pw_jo0040_02 w) (hGe : GetExpC (Mine.kmake.heap_1 w.params) PySem.Challenge.pw_jo0040_02 w) (hWs : WsC (Mine.kmake.heap_1 w.params) PySem.Challenge.pw_jo0040_02 w) : LimK (Mine.kmake.heap_1 w.params) PySem.Challenge.pw_jo0040_02 w 238 241 b3 0 (fun σ now key _ _ _ => sGetS σ now key) (fun σ now key amount ex _ v h' h => WsAt (reset0 σ now key amount ex, 1) false (left0 σ now key amount ex) v h' h) := by
  have hfill : (PySem.Challenge.rw_jo0040_02 = PySem.Challenge.rw_jo0040_02) ∧ (Mine.kmake.heap_1 = Mine.kmake.heap_1) := by k_fill; exact ⟨rfl, rfl⟩
  clear hfill
  intro p loose mean mg mb S now O A s base outer lim it tp key amount ex cost tc σ c lg args Q P hLim I hen hnow hc0 hc1 hcc hb hd ret
  obtain ⟨Z, KB, hs, he, hv, ht, ht5, D⟩ := id P
  obtain ⟨ok, o5, XB, TBp, C1, C2, IB, hlgb⟩ := id Z
  have TB := topRead_of TBp
  obtain ⟨n1, n2, n3, l1, l2, l3, b1⟩ := id ok
  obtain ⟨n4, n5⟩ := id o5
  obtain ⟨dl, tl, hl1, hl2⟩ := hLim
  have X : (Mine.kmake.heap_1 w.params).In (hideAll s.heap S.M) := XB.keeps KB.stays
  have T : TopRead p loose mg mb (hideAll s.heap S.M) := TB.keeps KB.stays
  have Tp : Top p loose mean mg mb (hideAll s.heap S.M) := TBp.keeps KB.stays
  have II : StI PySem.Challenge.pw_jo0040_02 w (hideAll s.heap S.M) S now := IB.keeps KB.stays
  have hroom' := hd.d
  have hh := hd.h
  have hu := hd.u
  have hSd := D.s
  have hEd := D.e
  have hVd := D.v
  have hbd := D.b
  have hS0 := D.hc
  have hex := I.hx
  have ham := I.ha
  have hkl : key.length ≤ 1000 := Nat.le_trans I.hk (by decide)
  refine' enter (Wl := S.M) (news := five S O) (binds := b3 lim it tp cost tc) X T P.own ?ho ?hcd ?hroom ?hbind ?hloc ?_ ?c2 ?c3 ?c4 ?c5
  (case ho => k_is); (case hcd => k_is); (case hroom => walk_at "MINE om"); (case hbind => exact hb _ _ _ _ (by k_is)); (case c5 => decide); (case hloc => exact locs rfl); (case c2 => exact rfl); (case c3 => exact rfl); (case c4 => exact rfl)
  intro L' h₁ F N lt
  (try dsimp only [List.reverse, List.reverseAux] at F)
  clear hs he hv ht ht5 lt
  generalize hg : hideAll s.heap S.M = g at *
  have i1 := II.i1
  have i2 := II.i2
  obtain ⟨fcc, fcd, fcf, fcs, hfc⟩ := II.fn
  have hnb := II.bnd
  have gl1 : g.get? lim = some _ := KB.stays _ _ hl1
  have gl2 : g.get? dl = some _ := KB.stays _ _ hl2
  (try k_fold)
  k_steps
  (refine' ret _ _ _ _ [] g (aft_at hg KtsTurn.refl ?F ?N ?mt ?m5 ?ms ?me ?mv (fun _ h => nomatch h) ?_) ?_; (case F => k_asm); (case N => k_asm); (case mt => k_mem); (case m5 => k_mem); (case ms => k_mem); (case me => k_mem); (case mv => k_mem))
  · exact ⟨by assumption, by assumption, hVd, D.t, D.t5, hbd.get, by walk_at "MINE om"⟩
  · (refine' ⟨_, _, _, _, rfl, news_at ?N1 ?m1, news_at ?N2 ?m2, goneM hg ?N3 ?m3 ?n3, goneM hg ?N4 ?m4 ?n4, ?ne, ?r⟩; (case N1 => k_asm); (case m1 => k_mem); (case N2 => k_asm); (case m2 => k_mem); (case N3 => k_asm); (case m3 => k_mem); (case n3 => walk_at "MINE om"); (case N4 => k_asm); (case m4 => k_mem); (case n4 => walk_at "MINE om"); (case ne => assumption); (case r => (rw [if_neg (by decide)]; exact ⟨_, rfl⟩)))
theorem c_clear1 (w : World) (hClear : ClearC (Mine.kmake.heap_1 w.params) PySem.Challenge.pw_jo0040_02 w) : LimK (Mine.kmake.heap_1 w.params) PySem.Challenge.pw_jo0040_02 w 158 202 b3 0 (fun σ _ key _ _ _ => sClr σ key) (fun _ _ _ _ _ _ v _ _ => v = .none) := by
  have hfill : (PySem.Challenge.rw_jo0040_02 = PySem.Challenge.rw_jo0040_02) ∧ (Mine.kmake.heap_1 = Mine.kmake.heap_1) := by k_fill; exact ⟨rfl, rfl⟩
  clear hfill
  intro p loose mean mg mb S now O A s base outer lim it tp key amount ex cost tc σ c lg args Q P hLim I hen hnow hc0 hc1 hcc hb hd ret
  obtain ⟨Z, KB, hs, he, hv, ht, ht5, D⟩ := id P
  obtain ⟨ok, o5, XB, TBp, C1, C2, IB, hlgb⟩ := id Z
  have TB := topRead_of TBp
  obtain ⟨n1, n2, n3, l1, l2, l3, b1⟩ := id ok
  obtain ⟨n4, n5⟩ := id o5
  obtain ⟨dl, tl, hl1, hl2⟩ := hLim
  have X : (Mine.kmake.heap_1 w.params).In (hideAll s.heap S.M) := XB.keeps KB.stays
  have T : TopRead p loose mg mb (hideAll s.heap S.M) := TB.keeps KB.stays
  have Tp : Top p loose mean mg mb (hideAll s.heap S.M) := TBp.keeps KB.stays
  have II : StI PySem.Challenge.pw_jo0040_02 w (hideAll s.heap S.M) S now := IB.keeps KB.stays
  have hroom' := hd.d
  have hh := hd.h
  have hu := hd.u
  have hSd := D.s
  have hEd := D.e
  have hVd := D.v
  have hbd := D.b
  have hS0 := D.hc
  have hex := I.hx
  have ham := I.ha
  have hkl : key.length ≤ 1000 := Nat.le_trans I.hk (by decide)
  refine' enter (Wl := S.M) (news := five S O) (binds := b3 lim it tp cost tc) X T P.own ?ho ?hcd ?hroom ?hbind ?hloc ?_ ?c2 ?c3 ?c4 ?c5
  (case ho => k_is); (case hcd => k_is); (case hroom => walk_at "MINE om"); (case hbind => exact hb _ _ _ _ (by k_is)); (case c5 => decide); (case hloc => exact locs rfl); (case c2 => exact rfl); (case c3 => exact rfl); (case c4 => exact rfl)
  intro L' h₁ F N lt
  (try dsimp only [List.reverse, List.reverseAux] at F)
  clear hs he hv ht ht5 lt
  generalize hg : hideAll s.heap S.M = g at *
  have i1 := II.i1
  have i2 := II.i2
  obtain ⟨fcc, fcd, fcf, fcs, hfc⟩ := II.fn
  have hnb := II.bnd
  have gl1 : g.get? lim = some _ := KB.stays _ _ hl1
  have gl2 : g.get? dl = some _ := KB.stays _ _ hl2
  (try k_fold)
  k_steps
  (refine' ret _ _ _ _ [] g (aft_at hg KtsTurn.refl ?F ?N ?mt ?m5 ?ms ?me ?mv (fun _ h => nomatch h) ?_) ?_; (case F => k_asm); (case N => k_asm); (case mt => k_mem); (case m5 => k_mem); (case ms => k_mem); (case me => k_mem); (case mv => k_mem))
  · exact ⟨by assumption, by assumption, by assumption, D.t, D.t5, hbd.era, by walk_at "MINE om"⟩
  · exact rfl


theorem c_wc (w : World) : WcC (Mine.kmake.heap_1 w.params) PySem.Challenge.pw_jo0040_02 w := by
  have hfill : (PySem.Challenge.rw_jo0040_02 = PySem.Challenge.rw_jo0040_02) ∧ (Mine.kmake.heap_1 = Mine.kmake.heap_1) := by k_fill; exact ⟨rfl, rfl⟩
  clear hfill
  intro p loose mg mb g0 base L0 m0 news0 A s lim it tp key amount ex pc pt cc t1 t2 t3 Q E F0 N0 X0 T0 hB I hp0 hp1 ht0 ht1 hd ret
  have hroom' := hd.d
  have hh := hd.h
  have hu := hd.u
  have hex := I.hx
  have X := X0.keeps F0.keep
  have T := T0.keeps F0.keep
  have B : base.StaysIn s.heap := fun b o e => F0.keep b o (hB b o e)
  refine wpAny_call ?_
  refine' enter (Wl := []) (news := []) (binds := [("self", .ref lim), ("item", .ref it), ("previous_count", .int pc t1), ("previous_expires_in", .int pt t2), ("current_count", .int cc t3)]) X T (fun _ h => nomatch h) ?ho ?hcd ?hroom ?hbind ?hloc ?_ ?c2 ?c3 ?c4 ?c5
  walk_at "MINE enter"
  intro L' h₁ F N lt
  change Fr s.heap L' h₁ _ at F
  change News s.heap L' h₁ _ at N
  (try dsimp only [List.reverse, List.reverseAux] at F)
  clear lt
  have done : ∀ {h₂ m' tk t}, Fr s.heap L' h₂ m' → Q (.int ((pc * pt).fdiv ex + cc) t) { s with heap := h₂, toks := tk } := fun Fe => ret _ _ _ (kept_frame F0 Fe.keep) (kept_news N0 Fe.keep)
  clear ret X0 T0 F0 N0 hB
  generalize hg : s.heap = g at *
  (try k_fold)
  k_steps
  exact done (by k_asm)
theorem c_hit2 (w : World) (hA : AcqSwC (Mine.kmake.heap_1 w.params) PySem.Challenge.pw_jo0040_02 w) : LimK (Mine.kmake.heap_1 w.params) PySem.Challenge.pw_jo0040_02 w 266 296 b4 1 hit2S (fun σ now key amount ex cost v _ _ => isB (hit2R σ now key amount ex cost) v) := by
  have hfill : (PySem.Challenge.rw_jo0040_02 = PySem.Challenge.rw_jo0040_02) ∧ (Mine.kmake.heap_1 = Mine.kmake.heap_1) := by k_fill; exact ⟨rfl, rfl⟩
  clear hfill
  intro p loose mean mg mb S now O A s base outer lim it tp key amount ex cost tc σ c lg args Q P hLim I hen hnow hc0 hc1 hcc hb hd ret
  obtain ⟨Z, KB, hs, he, hv, ht, ht5, D⟩ := id P
  obtain ⟨ok, o5, XB, TBp, C1, C2, IB, hlgb⟩ := id Z
  have TB := topRead_of TBp
  obtain ⟨n1, n2, n3, l1, l2, l3, b1⟩ := id ok
  obtain ⟨n4, n5⟩ := id o5
  obtain ⟨dl, tl, hl1, hl2⟩ := hLim
  have X : (Mine.kmake.heap_1 w.params).In (hideAll s.heap S.M) := XB.keeps KB.stays
  have T : TopRead p loose mg mb (hideAll s.heap S.M) := TB.keeps KB.stays
  have Tp : Top p loose mean mg mb (hideAll s.heap S.M) := TBp.keeps KB.stays
  have II : StI PySem.Challenge.pw_jo0040_02 w (hideAll s.heap S.M) S now := IB.keeps KB.stays
  have hroom' := hd.d
  have hh := hd.h
  have hu := hd.u
  have hSd := D.s
  have hEd := D.e
  have hVd := D.v
  have hbd := D.b
  have hS0 := D.hc
  have hex := I.hx
  have ham := I.ha
  have hkl : key.length ≤ 1000 := Nat.le_trans I.hk (by decide)
  have hbn : ∀ k i, σ.fs k = some i → 0 ≤ i ∧ i < 2 ^ 30 := fun k i e => by have := hbd.bs k i e; walk_at "MINE om"
  refine' enter (Wl := S.M) (news := five S O) (binds := b4 lim it tp cost tc) X T P.own ?ho ?hcd ?hroom ?hbind ?hloc ?_ ?c2 ?c3 ?c4 ?c5
  (case ho => k_is); (case hcd => k_is); (case hroom => walk_at "MINE om"); (case hbind => exact hb _ _ _ _ (by k_is)); (case c5 => decide); (case hloc => exact locs rfl); (case c2 => exact rfl); (case c3 => exact rfl); (case c4 => exact rfl)
  intro L' h₁ F N lt
  (try dsimp only [List.reverse, List.reverseAux] at F)
  clear hs he hv ht ht5 lt
  generalize hg : hideAll s.heap S.M = g at *
  have i1 := II.i1
  have i2 := II.i2
  obtain ⟨fcc, fcd, fcf, fcs, hfc⟩ := II.fn
  have hnb := II.bnd
  have gl1 : g.get? lim = some _ := KB.stays _ _ hl1
  have gl2 : g.get? dl = some _ := KB.stays _ _ hl2
  (try k_fold)
  k_steps
  (refine' ret _ _ _ _ [] g (aft_at hg KtsTurn.refl ?F ?N ?mt ?m5 ?ms ?me ?mv (fun _ h => nomatch h) ?_) ?_; (case F => k_asm); (case N => k_asm); (case mt => k_mem); (case m5 => k_mem); (case ms => k_mem); (case me => k_mem); (case mv => k_mem))
  · exact ⟨by assumption, by assumption, hVd.le (Nat.le_succ _), D.t, D.t5, hbd.acqsw (by walk_at "MINE om") (by walk_at "MINE om") (by walk_at "MINE om") (by walk_at "MINE om"), by walk_at "MINE om"⟩
  · exact rfl
theorem c_clear2 (w : World) (hClear : ClearSwC (Mine.kmake.heap_1 w.params) PySem.Challenge.pw_jo0040_02 w) : LimK (Mine.kmake.heap_1 w.params) PySem.Challenge.pw_jo0040_02 w 293 296 b3 0 (fun σ now key _ ex _ => sClr (sClr σ (kP key now ex)) (kC key now ex)) (fun _ _ _ _ _ _ v _ _ => v = .none) := by
  have hfill : (PySem.Challenge.rw_jo0040_02 = PySem.Challenge.rw_jo0040_02) ∧ (Mine.kmake.heap_1 = Mine.kmake.heap_1) := by k_fill; exact ⟨rfl, rfl⟩
  clear hfill
  intro p loose mean mg mb S now O A s base outer lim it tp key amount ex cost tc σ c lg args Q P hLim I hen hnow hc0 hc1 hcc hb hd ret
  obtain ⟨Z, KB, hs, he, hv, ht, ht5, D⟩ := id P
  obtain ⟨ok, o5, XB, TBp, C1, C2, IB, hlgb⟩ := id Z
  have TB := topRead_of TBp
  obtain ⟨n1, n2, n3, l1, l2, l3, b1⟩ := id ok
  obtain ⟨n4, n5⟩ := id o5
  obtain ⟨dl, tl, hl1, hl2⟩ := hLim
  have X : (Mine.kmake.heap_1 w.params).In (hideAll s.heap S.M) := XB.keeps KB.stays
  have T : TopRead p loose mg mb (hideAll s.heap S.M) := TB.keeps KB.stays
  have Tp : Top p loose mean mg mb (hideAll s.heap S.M) := TBp.keeps KB.stays
  have II : StI PySem.Challenge.pw_jo0040_02 w (hideAll s.heap S.M) S now := IB.keeps KB.stays
  have hroom' := hd.d
  have hh := hd.h
  have hu := hd.u
  have hSd := D.s
  have hEd := D.e
  have hVd := D.v
  have hbd := D.b
  have hS0 := D.hc
  have hex := I.hx
  have ham := I.ha
  have hkl : key.length ≤ 1000 := Nat.le_trans I.hk (by decide)
  refine' enter (Wl := S.M) (news := five S O) (binds := b3 lim it tp cost tc) X T P.own ?ho ?hcd ?hroom ?hbind ?hloc ?_ ?c2 ?c3 ?c4 ?c5
  (case ho => k_is); (case hcd => k_is); (case hroom => walk_at "MINE om"); (case hbind => exact hb _ _ _ _ (by k_is)); (case c5 => decide); (case hloc => exact locs rfl); (case c2 => exact rfl); (case c3 => exact rfl); (case c4 => exact rfl)
  intro L' h₁ F N lt
  (try dsimp only [List.reverse, List.reverseAux] at F)
  clear hs he hv ht ht5 lt
  generalize hg : hideAll s.heap S.M = g at *
  have i1 := II.i1
  have i2 := II.i2
  obtain ⟨fcc, fcd, fcf, fcs, hfc⟩ := II.fn
  have hnb := II.bnd
  have gl1 : g.get? lim = some _ := KB.stays _ _ hl1
  have gl2 : g.get? dl = some _ := KB.stays _ _ hl2
  (try k_fold)
  k_steps
  (refine' ret _ _ _ _ [] g (aft_at hg KtsTurn.refl ?F ?N ?mt ?m5 ?ms ?me ?mv (fun _ h => nomatch h) ?_) ?_; (case F => k_asm); (case N => k_asm); (case mt => k_mem); (case m5 => k_mem); (case ms => k_mem); (case me => k_mem); (case mv => k_mem))
  · exact ⟨by assumption, by assumption, by assumption, D.t, D.t5, hbd.era.era, by walk_at "MINE om"⟩
  · exact rfl
theorem c_test2 (w : World) (hSw : GetSwC (Mine.kmake.heap_1 w.params) PySem.Challenge.pw_jo0040_02 w) (hWc : WcC (Mine.kmake.heap_1 w.params) PySem.Challenge.pw_jo0040_02 w) : LimK (Mine.kmake.heap_1 w.params) PySem.Challenge.pw_jo0040_02 w 275 296 b4 0 (fun σ now key _ ex _ => sInfoS σ now (kP key now ex) (kC key now ex)) (fun σ now key amount ex cost v _ _ => isB (test2R σ now key amount ex cost) v) := by
  have hfill : (PySem.Challenge.rw_jo0040_02 = PySem.Challenge.rw_jo0040_02) ∧ (Mine.kmake.heap_1 = Mine.kmake.heap_1) := by k_fill; exact ⟨rfl, rfl⟩
  clear hfill
  intro p loose mean mg mb S now O A s base outer lim it tp key amount ex cost tc σ c lg args Q P hLim I hen hnow hc0 hc1 hcc hb hd ret
  obtain ⟨Z, KB, hs, he, hv, ht, ht5, D⟩ := id P
  obtain ⟨ok, o5, XB, TBp, C1, C2, IB, hlgb⟩ := id Z
  have TB := topRead_of TBp
  obtain ⟨n1, n2, n3, l1, l2, l3, b1⟩ := id ok
  obtain ⟨n4, n5⟩ := id o5
  obtain ⟨dl, tl, hl1, hl2⟩ := hLim
  have X : (Mine.kmake.heap_1 w.params).In (hideAll s.heap S.M) := XB.keeps KB.stays
  have T : TopRead p loose mg mb (hideAll s.heap S.M) := TB.keeps KB.stays
  have Tp : Top p loose mean mg mb (hideAll s.heap S.M) := TBp.keeps KB.stays
  have II : StI PySem.Challenge.pw_jo0040_02 w (hideAll s.heap S.M) S now := IB.keeps KB.stays
  have hroom' := hd.d
  have hh := hd.h
  have hu := hd.u
  have hSd := D.s
  have hEd := D.e
  have hVd := D.v
  have hbd := D.b
  have hS0 := D.hc
  have hex := I.hx
  have ham := I.ha
  have hkl : key.length ≤ 1000 := Nat.le_trans I.hk (by decide)
  have q1 := hbd.pc (fe := σ.fe) (now := now) (k := kP key now ex)
  have q3 := iPt_bnd (fs := σ.fs) (fe := σ.fe) (now := now) (pk := kP key now ex) (expiry := ex) (by walk_at "MINE om")
  refine' enter (Wl := S.M) (news := five S O) (binds := b4 lim it tp cost tc) X T P.own ?ho ?hcd ?hroom ?hbind ?hloc ?_ ?c2 ?c3 ?c4 ?c5
  (case ho => k_is); (case hcd => k_is); (case hroom => walk_at "MINE om"); (case hbind => exact hb _ _ _ _ (by k_is)); (case c5 => decide); (case hloc => exact locs rfl); (case c2 => exact rfl); (case c3 => exact rfl); (case c4 => exact rfl)
  intro L' h₁ F N lt
  (try dsimp only [List.reverse, List.reverseAux] at F)
  clear hs he hv ht ht5 lt
  generalize hg : hideAll s.heap S.M = g at *
  have i1 := II.i1
  have i2 := II.i2
  obtain ⟨fcc, fcd, fcf, fcs, hfc⟩ := II.fn
  have hnb := II.bnd
  have gl1 : g.get? lim = some _ := KB.stays _ _ hl1
  have gl2 : g.get? dl = some _ := KB.stays _ _ hl2
  (try k_fold)
  k_steps
  (refine' ret _ _ _ _ [] g (aft_at hg KtsTurn.refl ?F ?N ?mt ?m5 ?ms ?me ?mv (fun _ h => nomatch h) ?_) ?_; (case F => k_asm); (case N => k_asm); (case mt => k_mem); (case m5 => k_mem); (case ms => k_mem); (case me => k_mem); (case mv => k_mem))
  · exact ⟨by assumption, by assumption, hVd, D.t, D.t5, hbd.info, by walk_at "MINE om"⟩
  · exact rfl


theorem c_stats2 (w : World) (hSw : GetSwC (Mine.kmake.heap_1 w.params) PySem.Challenge.pw_jo0040_02 w) (hWc : WcC (Mine.kmake.heap_1 w.params) PySem.Challenge.pw_jo0040_02 w) (hWs : WsC (Mine.kmake.heap_1 w.params) PySem.Challenge.pw_jo0040_02 w) : LimK (Mine.kmake.heap_1 w.params) PySem.Challenge.pw_jo0040_02 w 284 296 b3 0 (fun σ now key _ ex _ => sInfoS σ now (kP key now ex) (kC key now ex)) (fun σ now key amount ex _ v h' h => WsAt (reset2 σ now key amount ex) true (left2 σ now key amount ex) v h' h) := by
  have hfill : (PySem.Challenge.rw_jo0040_02 = PySem.Challenge.rw_jo0040_02) ∧ (Mine.kmake.heap_1 = Mine.kmake.heap_1) := by k_fill; exact ⟨rfl, rfl⟩
  clear hfill
  intro p loose mean mg mb S now O A s base outer lim it tp key amount ex cost tc σ c lg args Q P hLim I hen hnow hc0 hc1 hcc hb hd ret
  obtain ⟨Z, KB, hs, he, hv, ht, ht5, D⟩ := id P
  obtain ⟨ok, o5, XB, TBp, C1, C2, IB, hlgb⟩ := id Z
  have TB := topRead_of TBp
  obtain ⟨n1, n2, n3, l1, l2, l3, b1⟩ := id ok
  obtain ⟨n4, n5⟩ := id o5
  obtain ⟨dl, tl, hl1, hl2⟩ := hLim
  have X : (Mine.kmake.heap_1 w.params).In (hideAll s.heap S.M) := XB.keeps KB.stays
  have T : TopRead p loose mg mb (hideAll s.heap S.M) := TB.keeps KB.stays
  have Tp : Top p loose mean mg mb (hideAll s.heap S.M) := TBp.keeps KB.stays
  have II : StI PySem.Challenge.pw_jo0040_02 w (hideAll s.heap S.M) S now := IB.keeps KB.stays
  have hroom' := hd.d
  have hh := hd.h
  have hu := hd.u
  have hSd := D.s
  have hEd := D.e
  have hVd := D.v
  have hbd := D.b
  have hS0 := D.hc
  have hex := I.hx
  have ham := I.ha
  have hkl : key.length ≤ 1000 := Nat.le_trans I.hk (by decide)
  have q1 := hbd.pc (fe := σ.fe) (now := now) (k := kP key now ex)
  have q2 := (hbd.get (now := now) (k := kP key now ex)).pc (fe := (sGet σ.fs σ.fe now (kP key now ex)).2.1) (now := now) (k := kC key now ex)
  change 0 ≤ iCc σ.fs σ.fe now (kP key now ex) (kC key now ex) ∧ iCc σ.fs σ.fe now (kP key now ex) (kC key now ex) ≤ 1000 * c at q2
  have q3 := iPt_bnd (fs := σ.fs) (fe := σ.fe) (now := now) (pk := kP key now ex) (expiry := ex) (by walk_at "MINE om")
  have q4 := fmod_bnd (x := iCt now ex) (e := ex) (by walk_at "MINE om")
  have q5 : 0 ≤ iCt now ex ∧ iCt now ex ≤ 2 * ex := by unfold iCt; have := fmod_bnd (x := now) (e := ex) (by walk_at "MINE om"); walk_at "MINE om"
  refine' enter (Wl := S.M) (news := five S O) (binds := b3 lim it tp cost tc) X T P.own ?ho ?hcd ?hroom ?hbind ?hloc ?_ ?c2 ?c3 ?c4 ?c5
  (case ho => k_is); (case hcd => k_is); (case hroom => walk_at "MINE om"); (case hbind => exact hb _ _ _ _ (by k_is)); (case c5 => decide); (case hloc => exact locs rfl); (case c2 => exact rfl); (case c3 => exact rfl); (case c4 => exact rfl)
  intro L' h₁ F N lt
  (try dsimp only [List.reverse, List.reverseAux] at F)
  clear hs he hv ht ht5 lt
  generalize hg : hideAll s.heap S.M = g at *
  have i1 := II.i1
  have i2 := II.i2
  obtain ⟨fcc, fcd, fcf, fcs, hfc⟩ := II.fn
  have hnb := II.bnd
  have gl1 : g.get? lim = some _ := KB.stays _ _ hl1
  have gl2 : g.get? dl = some _ := KB.stays _ _ hl2
  (try k_fold)
  k_steps
  all_goals first | contradiction | (exfalso; walk_at "MINE om") | skip
  · (refine' ret _ _ _ _ [] g (aft_at hg KtsTurn.refl ?F ?N ?mt ?m5 ?ms ?me ?mv (fun _ h => nomatch h) ?_) ?_; (case F => k_asm); (case N => k_asm); (case mt => k_mem); (case m5 => k_mem); (case ms => k_mem); (case me => k_mem); (case mv => k_mem))
    · exact ⟨by assumption, by assumption, hVd, D.t, D.t5, hbd.info, by walk_at "MINE om"⟩
    · (refine' ⟨_, _, _, _, rfl, news_at ?N1 ?m1, news_at ?N2 ?m2, goneM hg ?N3 ?m3 ?n3, goneM hg ?N4 ?m4 ?n4, ?ne, ?r⟩; (case N1 => k_asm); (case m1 => k_mem); (case N2 => k_asm); (case m2 => k_mem); (case N3 => k_asm); (case m3 => k_mem); (case n3 => walk_at "MINE om"); (case N4 => k_asm); (case m4 => k_mem); (case n4 => walk_at "MINE om"); (case ne => assumption); (case r => (rw [if_pos rfl]; (first | rw [reset2_A (by assumption) (by assumption)] | rw [reset2_B (by assumption) (by assumption)] | rw [reset2_C (by assumption) (by assumption)] | rw [reset2_D (by assumption) (by assumption)]); refine' ⟨_, _, _, rfl, news_at ?M1 ?q1, goneM hg ?M2 ?q2 ?q3, ?q4, ?q5⟩; (case M1 => k_asm); (case q1 => k_mem); (case M2 => k_asm); (case q2 => k_mem); (case q3 => walk_at "MINE om"); (case q4 => walk_at "MINE om"); (case q5 => walk_at "MINE om"))))
  · (refine' ret _ _ _ _ [] g (aft_at hg KtsTurn.refl ?F ?N ?mt ?m5 ?ms ?me ?mv (fun _ h => nomatch h) ?_) ?_; (case F => k_asm); (case N => k_asm); (case mt => k_mem); (case m5 => k_mem); (case ms => k_mem); (case me => k_mem); (case mv => k_mem))
    · exact ⟨by assumption, by assumption, hVd, D.t, D.t5, hbd.info, by walk_at "MINE om"⟩
    · (refine' ⟨_, _, _, _, rfl, news_at ?N1 ?m1, news_at ?N2 ?m2, goneM hg ?N3 ?m3 ?n3, goneM hg ?N4 ?m4 ?n4, ?ne, ?r⟩; (case N1 => k_asm); (case m1 => k_mem); (case N2 => k_asm); (case m2 => k_mem); (case N3 => k_asm); (case m3 => k_mem); (case n3 => walk_at "MINE om"); (case N4 => k_asm); (case m4 => k_mem); (case n4 => walk_at "MINE om"); (case ne => assumption); (case r => (rw [if_pos rfl]; (first | rw [reset2_A (by assumption) (by assumption)] | rw [reset2_B (by assumption) (by assumption)] | rw [reset2_C (by assumption) (by assumption)] | rw [reset2_D (by assumption) (by assumption)]); refine' ⟨_, _, _, rfl, news_at ?M1 ?q1, goneM hg ?M2 ?q2 ?q3, ?q4, ?q5⟩; (case M1 => k_asm); (case q1 => k_mem); (case M2 => k_asm); (case q2 => k_mem); (case q3 => walk_at "MINE om"); (case q4 => walk_at "MINE om"); (case q5 => walk_at "MINE om"))))
  · (refine' ret _ _ _ _ [] g (aft_at hg KtsTurn.refl ?F ?N ?mt ?m5 ?ms ?me ?mv (fun _ h => nomatch h) ?_) ?_; (case F => k_asm); (case N => k_asm); (case mt => k_mem); (case m5 => k_mem); (case ms => k_mem); (case me => k_mem); (case mv => k_mem))
    · exact ⟨by assumption, by assumption, hVd, D.t, D.t5, hbd.info, by walk_at "MINE om"⟩
    · (refine' ⟨_, _, _, _, rfl, news_at ?N1 ?m1, news_at ?N2 ?m2, goneM hg ?N3 ?m3 ?n3, goneM hg ?N4 ?m4 ?n4, ?ne, ?r⟩; (case N1 => k_asm); (case m1 => k_mem); (case N2 => k_asm); (case m2 => k_mem); (case N3 => k_asm); (case m3 => k_mem); (case n3 => walk_at "MINE om"); (case N4 => k_asm); (case m4 => k_mem); (case n4 => walk_at "MINE om"); (case ne => assumption); (case r => (rw [if_pos rfl]; (first | rw [reset2_A (by assumption) (by assumption)] | rw [reset2_B (by assumption) (by assumption)] | rw [reset2_C (by assumption) (by assumption)] | rw [reset2_D (by assumption) (by assumption)]); refine' ⟨_, _, _, rfl, news_at ?M1 ?q1, goneM hg ?M2 ?q2 ?q3, ?q4, ?q5⟩; (case M1 => k_asm); (case q1 => k_mem); (case M2 => k_asm); (case q2 => k_mem); (case q3 => walk_at "MINE om"); (case q4 => walk_at "MINE om"); (case q5 => walk_at "MINE om"))))
  · (refine' ret _ _ _ _ [] g (aft_at hg KtsTurn.refl ?F ?N ?mt ?m5 ?ms ?me ?mv (fun _ h => nomatch h) ?_) ?_; (case F => k_asm); (case N => k_asm); (case mt => k_mem); (case m5 => k_mem); (case ms => k_mem); (case me => k_mem); (case mv => k_mem))
    · exact ⟨by assumption, by assumption, hVd, D.t, D.t5, hbd.info, by walk_at "MINE om"⟩
    · (refine' ⟨_, _, _, _, rfl, news_at ?N1 ?m1, news_at ?N2 ?m2, goneM hg ?N3 ?m3 ?n3, goneM hg ?N4 ?m4 ?n4, ?ne, ?r⟩; (case N1 => k_asm); (case m1 => k_mem); (case N2 => k_asm); (case m2 => k_mem); (case N3 => k_asm); (case m3 => k_mem); (case n3 => walk_at "MINE om"); (case N4 => k_asm); (case m4 => k_mem); (case n4 => walk_at "MINE om"); (case ne => assumption); (case r => (rw [if_pos rfl]; (first | rw [reset2_A (by assumption) (by assumption)] | rw [reset2_B (by assumption) (by assumption)] | rw [reset2_C (by assumption) (by assumption)] | rw [reset2_D (by assumption) (by assumption)]); refine' ⟨_, _, _, rfl, news_at ?M1 ?q1, goneM hg ?M2 ?q2 ?q3, ?q4, ?q5⟩; (case M1 => k_asm); (case q1 => k_mem); (case M2 => k_asm); (case q2 => k_mem); (case q3 => walk_at "MINE om"); (case q4 => walk_at "MINE om"); (case q5 => walk_at "MINE om"))))

theorem reg_CL1 : True := by
  k_with_none
  k_with "MINE pj" => (first | with_reducible assumption | exact an0 (by with_reducible assumption) | exact an1 (by with_reducible assumption) | exact an2 (by with_reducible assumption) | exact an3 (by with_reducible assumption) | exact an4 (by with_reducible assumption) | exact an5 (by with_reducible assumption) | exact an6 (by with_reducible assumption) | exact an7 (by with_reducible assumption) | exact an8 (by with_reducible assumption) | exact an9 (by with_reducible assumption) | exact bn1 (by with_reducible assumption) | exact bn2 (by with_reducible assumption) | exact bn3 (by with_reducible assumption) | exact bn4 (by with_reducible assumption) | exact bn5 (by with_reducible assumption) | exact bn6 (by with_reducible assumption) | exact bn7 (by with_reducible assumption) | exact bn8 (by with_reducible assumption))
  k_with "MINE lt" => (first | walk_at "MINE pj" | (with_reducible refine Nat.lt_trans ?_ (by with_reducible assumption); walk_at "MINE lt"))
  k_with "MINE ne" => (with_reducible refine neN ?_; (try dsimp only); first | with_reducible assumption | (refine Ne.symm ?_; with_reducible assumption) | (refine Nat.ne_of_lt ?_; with_reducible assumption) | (refine Nat.ne_of_gt ?_; with_reducible assumption) | (simp only [*, ne_eq, not_false_eq_true]; done) | (refine Ne.symm ?_; (simp only [*, ne_eq, not_false_eq_true]; done)) | (refine Nat.ne_of_lt ?_; (simp only [*]; done)) | (refine Nat.ne_of_gt ?_; (simp only [*]; done)) | assumption | decide | (refine Nat.ne_of_gt ?_; walk_at "MINE lt") | (refine Nat.ne_of_lt ?_; walk_at "MINE lt") | lia | omega)
  k_with "MINE nes" => (repeat' (first | (refine And.intro ?_ ?_) | (with_reducible refine neN ?_; walk_at "MINE ne")))
  k_with "MINE om" => (first | with_reducible assumption | exact Nat.le_of_ble_eq_true rfl | exact an0 (by with_reducible assumption) | exact bn1 (by with_reducible assumption) | exact an1 (by with_reducible assumption) | exact Nat.lt_of_le_of_lt (Nat.le_add_right _ _) (by with_reducible assumption) | exact Int.lt_trans (by with_reducible assumption) (by decide) | exact Int.lt_trans (bn1 (by with_reducible assumption)) (by decide) | exact Int.lt_of_lt_of_le (by decide) (by with_reducible assumption) | exact Int.lt_of_lt_of_le (by decide) (an0 (by with_reducible assumption)) | exact Nat.le_trans (by with_reducible assumption) (by decide) | exact Int.le_of_lt (by with_reducible assumption) | exact Int.le_trans (by with_reducible assumption) (by decide) | exact Int.lt_of_le_of_lt (by with_reducible assumption) (by decide) | decide | (walk_at "MINE nes"; done) | lia | omega)
  k_with "getMethod ref" => (k_here; k_dflt (refine' dMethI ?N_0 ?m_0 ?d_0 ?i_0 ?_; (case N_0 => k_asm); (case m_0 => k_mem); (case d_0 => k_asm); (case i_0 => exact rfl); k_whole))
  k_with "call builtin:dict.get" => (k_here; k_dflt (refine' dGetI ?N_1 ?m_1 ?d_1 ?lo_1 ?_; (case N_1 => k_asm); (case m_1 => k_mem); (case d_1 => k_asm); (case lo_1 => k_asm); k_whole; intro t'K))
  k_with "call builtin:dict.pop" => (k_here; k_dflt (refine' dPopI ?F_2 ?N_2 ?U_2 ?d_2 ?lo_2 ?z_2 ?_; (case F_2 => k_asm); (case N_2 => k_asm); (case U_2 => k_updF); (case d_2 => k_asm); (case lo_2 => k_asm); (case z_2 => walk_at "MINE om"); k_whole; intro h'K o'K v'K F'K N'K hd'K; (try dsimp only at N'K); (try k_sweep)))
  k_with "getMethod ref" => (k_here; k_dflt (refine' dMethV ?N_3 ?m_3 ?d_3 ?i_3 ?_; (case N_3 => k_asm); (case m_3 => k_mem); (case d_3 => k_asm); (case i_3 => exact rfl); k_whole))
  k_with "call builtin:dict.pop" => (k_here; k_dflt (refine' dPopV ?F_4 ?N_4 ?U_4 ?d_4 ?lo_4 ?z_4 ?_; (case F_4 => k_asm); (case N_4 => k_asm); (case U_4 => k_updF); (case d_4 => k_asm); (case lo_4 => k_asm); (case z_4 => walk_at "MINE om"); k_whole; intro h'K o'K v'K F'K N'K hd'K; (try dsimp only at N'K); (try k_sweep)))
  k_with "setItem ref str" => (k_here; k_dflt (refine' dSetI ?F_5 ?N_5 ?U_5 ?d_5 ?z_5 ?_; (case F_5 => k_asm); (case N_5 => k_asm); (case U_5 => k_updF); (case d_5 => k_asm); (case z_5 => walk_at "MINE om"); k_whole; intro h'K o'K F'K N'K hd'K; (try dsimp only at N'K); (try k_sweep)))
  k_with "subscriptTail" => (k_here; (with_reducible show wpAny _ _ (subscriptTail _ _ (Value.ref _) (Value.str _ _)) _ _ _); k_dflt (refine' dTailI ?N_6 ?m_6 ?d_6 ?_; (case N_6 => k_asm); (case m_6 => k_mem); (case d_6 => k_asm); k_whole))
  k_with "getItem ref str" => (k_here; k_dflt (refine' dItemI ?N_7 ?m_7 ?d_7 ?v_7 ?_; (case N_7 => k_asm); (case m_7 => k_mem); (case d_7 => k_asm); (case v_7 => first | k_asm | exact if_pos rfl); k_whole; intro t'K))
  k_with "getAttr ref" => (k_here; k_dflt (refine' getOwnG ?k1_8 ?k2_8 ?i1_8 ?i2_8 ?k4_8 ?k5_8 ?k6_8 ?k7_8 ?k8_8 ?k9_8 ?_; (case k1_8 => k_asm); (case k2_8 => k_asm); (case i1_8 => k_asm); (case i2_8 => k_asm); (case k4_8 => k_is); (case k5_8 => k_is); (case k6_8 => k_is); (case k7_8 => k_is); (case k8_8 => k_get); (case k9_8 => k_handed); k_whole))
  k_with "getMethod ref" => (k_here; k_dflt (refine' methG ?k1_9 ?k2_9 ?i1_9 ?i2_9 ?k4_9 ?k5_9 ?k6_9 ?k7_9 ?_; (case k1_9 => k_asm); (case k2_9 => k_asm); (case i1_9 => k_asm); (case i2_9 => k_asm); (case k4_9 => k_is); (case k5_9 => k_is); (case k6_9 => k_is); (case k7_9 => k_get); k_whole))
  k_with "getMethod ref" => (k_here; k_dflt (refine' kmuOwnG ?k1_10 ?k2_10 ?i1_10 ?i2_10 ?k4_10 ?k5_10 ?_; (case k1_10 => k_asm); (case k2_10 => k_asm); (case i1_10 => k_asm); (case i2_10 => k_asm); (case k4_10 => k_is); (case k5_10 => k_is); k_whole))
  k_with "callWith ref" => (k_here; (with_reducible show wpAny _ _ (callWith _ (Value.ref _) [] (backTo _ (starEach [] _)) []) _ _ _); k_dflt (refine' callFn0 ?k1_11 ?k2_11 ?_; (case k1_11 => k_asm); (case k2_11 => k_asm); k_whole))
  k_with "callWith ref" => (k_here; (with_reducible show wpAny _ _ (callWith _ (Value.ref _) _ (backTo _ (starEach (_ :: _) _)) []) _ _ _); k_dflt (first | (refine' callWith_K ?k1_12 ?k2_12 ?_; (case k1_12 => k_asm); (case k2_12 => k_is); k_whole) | (refine' callWith_M ?k1_12 ?k2_12 ?k3_12 ?k4_12 ?_; (case k1_12 => k_asm); (case k2_12 => k_asm); (case k3_12 => k_mem); (case k4_12 => k_is); k_whole)))
  k_with "MINE room" => (first | assumption | exact ArOk.down (by assumption) (by walk_at "MINE om"))
  k_with "call ref" => (k_here; k_dflt (refine' clk_use ?C_14 ?F_14 ?N_14 ?d_14 ?_; (case C_14 => k_asm); (case F_14 => k_asm); (case N_14 => k_asm); (case d_14 => walk_at "MINE room"); k_whole; intro h'K tk'K t'K F'K N'K; (try k_sweep)))
  k_with "call ref" => (k_here; (with_reducible show wpAny _ _ (call (Value.ref 616) _) _ _ _); k_dflt (refine' get_use ?C_15 ?ok_15 ?F_15 ?N_15 ?ms_15 ?me_15 ?mv_15 ?U1_15 ?U2_15 ?U3_15 ?X_15 ?T_15 ?I_15 ?hS_15 ?hE_15 ?hc_15 ?hd_15 ?_; (case C_15 => k_asm); (case ok_15 => k_asm); (case F_15 => k_asm); (case N_15 => k_asm); (case ms_15 => k_mem); (case me_15 => k_mem); (case mv_15 => k_mem); (case U1_15 => k_updF); (case U2_15 => (intro xK; k_updF)); (case U3_15 => (intro xK yK; k_updF)); (case X_15 => k_asm); (case T_15 => k_asm); (case I_15 => k_asm); (case hS_15 => k_asm); (case hE_15 => k_asm); (case hc_15 => walk_at "MINE om"); (case hd_15 => walk_at "MINE room"); k_whole; intro h'K tk'K t'K os'K oe'K F'K N'K hS'K hE'K; (try dsimp only at N'K); (try k_sweep)))
  k_with "MINE enter" => (
  (case ho => k_is); (case hcd => k_is); (case hroom => walk_at "MINE om"); (case hbind => first | exact BindsTo.of_eq rfl | exact binds_K (by k_in) rfl (by k_is) rfl rfl rfl);
  (case c5 => decide); (case hloc => exact locs rfl); (case c2 => exact rfl); (case c3 => exact rfl); (case c4 => exact rfl))
  k_with "MINE exit" => ((case F => k_asm); (case N => k_asm); (case a => k_mem); (case b => k_mem); (case c => k_mem))
  k_with "formatField int" => (k_here; (with_reducible show wpAny _ _ (formatField (Value.int _ _) _) _ _ _); k_dflt (refine' fmtI ?a_18 ?b_18 ?_; (case a_18 => walk_at "MINE om"); (case b_18 => walk_at "MINE om"); k_whole; intro hy'K t'K))
  k_with "And" => ((with_reducible show PySem.Str.length (_ ++ _) ≤ sizeLine ∧ wpAny _ _ (joinParts _ _) _ _ _); refine ⟨?a_19, ?_⟩; (case a_19 => (simp only [Str.length_append, Str.empty_append, slk_one, sizeLine_eq]; walk_at "MINE om")))
  k_with "getMethod ref" => (k_here; k_dflt (refine' kmuCmG ?k1_20 ?k2_20 ?k3_20 ?i1_20 ?i2_20 ?k5_20 ?k6_20 ?k7_20 ?k8_20 ?k9_20 ?k10_20 ?k11_20 ?k12_20 ?k13_20 ?_; (case k1_20 => k_asm); (case k2_20 => k_asm); (case k3_20 => k_asm); (case i1_20 => k_asm); (case i2_20 => k_asm); (case k5_20 => k_is); (case k6_20 => k_is); (case k7_20 => k_is); (case k8_20 => k_is); (case k9_20 => k_is); (case k10_20 => k_is); (case k11_20 => decide +kernel); (case k12_20 => k_get); (case k13_20 => k_is); k_whole; intro q'K h'K F'K N'K l1K; (try k_lt l1K); (try k_sweep)))
  k_with "call ref" => (k_here; k_dflt (refine' keys_use ?C_21 ?F_21 ?N_21 ?q_21 ?X_21 ?T_21 ?h0_21 ?h1_21 ?h2_21 ?hk_21 ?hd_21 ?_; (case C_21 => k_asm); (case F_21 => k_asm); (case N_21 => k_asm); (case q_21 => k_mem); (case X_21 => k_asm); (case T_21 => k_asm); (case h0_21 => walk_at "MINE om"); (case h1_21 => walk_at "MINE om"); (case h2_21 => walk_at "MINE om"); (case hk_21 => assumption); (case hd_21 => walk_at "MINE room"); k_whole; intro h'K tk'K tp'K u1K u2K F'K N'K l1K; (try simp only [List.forall_mem_cons, List.not_mem_nil, false_implies, implies_true, and_true] at l1K); (try k_sweep)))
  k_with "call ref" => (k_here; (with_reducible show wpAny _ _ (call (Value.ref 660) _) _ _ _); k_dflt (refine' info_use ?C_22 ?ok_22 ?F_22 ?N_22 ?ms_22 ?me_22 ?mv_22 ?U1_22 ?U2_22 ?U3_22 ?X_22 ?T_22 ?I_22 ?hV_22 ?hS_22 ?hE_22 ?hc_22 ?h0_22 ?hd_22 ?_; (case C_22 => k_asm); (case ok_22 => k_asm); (case F_22 => k_asm); (case N_22 => k_asm); (case ms_22 => k_mem); (case me_22 => k_mem); (case mv_22 => k_mem); (case U1_22 => k_updF); (case U2_22 => (intro xK; k_updF)); (case U3_22 => (intro xK yK; k_updF)); (case X_22 => k_asm); (case T_22 => k_asm); (case I_22 => k_asm); (case hV_22 => k_asm); (case hS_22 => k_asm); (case hE_22 => k_asm); (case hc_22 => walk_at "MINE om"); (case h0_22 => walk_at "MINE om"); (case hd_22 => walk_at "MINE room"); k_whole; intro h'K tk'K os'K oe'K tp'K u1K u2K u3K u4K F'K N'K l1K hS'K hE'K; (try simp only [List.forall_mem_cons, List.not_mem_nil, false_implies, implies_true, and_true] at l1K); (try dsimp only at N'K); (try k_sweep)))
  k_with "call ref" => (k_here; (with_reducible show wpAny _ _ (call (Value.ref 601) _ _) _ _ _); k_dflt (refine' incr_use ?C_23 ?ok_23 ?F_23 ?N_23 ?ms_23 ?me_23 ?mv_23 ?U1_23 ?U2_23 ?U3_23 ?X_23 ?T_23 ?I_23 ?hS_23 ?hE_23 ?hc_23 ?hd_23 ?_; (case C_23 => k_asm); (case ok_23 => k_asm); (case F_23 => k_asm); (case N_23 => k_asm); (case ms_23 => k_mem); (case me_23 => k_mem); (case mv_23 => k_mem); (case U1_23 => k_updF); (case U2_23 => (intro xK; k_updF)); (case U3_23 => (intro xK yK; k_updF)); (case X_23 => k_asm); (case T_23 => k_asm); (case I_23 => k_asm); (case hS_23 => k_asm); (case hE_23 => k_asm); (case hc_23 => walk_at "MINE om"); (case hd_23 => walk_at "MINE room"); k_whole; intro h'K tk'K t'K os'K oe'K F'K N'K hS'K hE'K; (try dsimp only at N'K); (try k_sweep)))
  k_with "call ref" => (k_here; (with_reducible show wpAny _ _ (call (Value.ref 623) _) _ _ _); k_dflt (refine' clear_use ?C_24 ?ok_24 ?F_24 ?N_24 ?ms_24 ?me_24 ?mv_24 ?U1_24 ?U2_24 ?U3_24 ?X_24 ?T_24 ?I_24 ?hS_24 ?hE_24 ?hV_24 ?hc_24 ?hd_24 ?_; (case C_24 => k_asm); (case ok_24 => k_asm); (case F_24 => k_asm); (case N_24 => k_asm); (case ms_24 => k_mem); (case me_24 => k_mem); (case mv_24 => k_mem); (case U1_24 => k_updF); (case U2_24 => (intro xK; k_updF)); (case U3_24 => (intro xK yK; k_updF)); (case X_24 => k_asm); (case T_24 => k_asm); (case I_24 => k_asm); (case hS_24 => k_asm); (case hE_24 => k_asm); (case hV_24 => k_asm); (case hc_24 => walk_at "MINE om"); (case hd_24 => walk_at "MINE room"); k_whole; intro h'K tk'K os'K oe'K ov'K F'K N'K hS'K hE'K hV'K; (try dsimp only at N'K); (try k_sweep)))
  k_with "assign Tuple" => (k_here; (with_reducible show wpAny _ _ (assign (Expr.Tuple _ _ _) _ (Value.ref _)) _ _ _); k_dflt (refine' unpackN_ ?k1_25 ?k2_25 ?k3_25 ?k4_25 ?k5_25 ?k6_25 ?_; (case k1_25 => k_asm); (case k2_25 => k_asm); (case k3_25 => kun_tup); (case k4_25 => assumption); (case k5_25 => exact rfl); (case k6_25 => exact rfl); k_whole); intro h'K F'K N'K; (try k_sweep))
  k_with "binaryOp Mult int int" => (k_here; (first | refine PySem.mul_int ?_ (hm := IntMulOk.of_left (intBits_le_64 (by walk_at "MINE om") (by walk_at "MINE om"))) | refine PySem.mul_int ?_ (hm := IntMulOk.of_right (intBits_le_64 (by walk_at "MINE om") (by walk_at "MINE om")))))
  k_with "call ref" => (k_here; (with_reducible show wpAny _ _ (call (Value.ref 631) _ _) _ _ _); (refine' acq_use ?C_27 ?Z_27 ?KB_27 ?F_27 ?N_27 ?mt_27 ?m5_27 ?ms_27 ?me_27 ?mv_27 ?U1_27 ?U2_27 ?U3_27 ?U4_27 ?U5_27 ?D_27 ?hc_27 ?h0_27 ?h1_27 ?h2_27 ?h3_27 ?h4_27 ?h5_27 ?hd_27 ?_ ?hk_27; (case C_27 => assumption); (case Z_27 => assumption); (case KB_27 => assumption); (case F_27 => k_asm); (case N_27 => k_asm); (case mt_27 => k_mem); (case m5_27 => k_mem); (case ms_27 => k_mem); (case me_27 => k_mem); (case mv_27 => k_mem); (case U1_27 => k_updF); (case U2_27 => (intro xK; k_updF)); (case U3_27 => (intro xK yK; k_updF)); (case U4_27 => (intro xK yK zK; k_updF)); (case U5_27 => (intro xK yK zK uK; k_updF)); (case D_27 => assumption); (case hc_27 => walk_at "MINE om"); (case h0_27 => walk_at "MINE om"); (case h1_27 => walk_at "MINE om"); (case h2_27 => walk_at "MINE om"); (case h3_27 => walk_at "MINE om"); (case h4_27 => walk_at "MINE om"); (case h5_27 => walk_at "MINE om"); (case hd_27 => walk_at "MINE room"); (case hk_27 => exact rfl); k_whole; intro h'K tk'K ov'K lg'K g2'K T'K F'K N'K B'K X'K P'K l'K D'K; (try dsimp only [List.cons_append, List.nil_append] at N'K)))
  k_with "call ref" => (k_here; (with_reducible show wpAny _ _ (call (Value.ref 645) _) _ _ _); (refine' gmw_use ?C_28 ?Z_28 ?KB_28 ?F_28 ?N_28 ?mt_28 ?m5_28 ?ms_28 ?me_28 ?mv_28 ?U1_28 ?U2_28 ?U3_28 ?U4_28 ?U5_28 ?D_28 ?h3_28 ?h4_28 ?h5_28 ?hd_28 ?_; (case C_28 => assumption); (case Z_28 => assumption); (case KB_28 => walk_at "MINE stays"); (case F_28 => k_asm); (case N_28 => k_asm); (case mt_28 => k_mem); (case m5_28 => k_mem); (case ms_28 => k_mem); (case me_28 => k_mem); (case mv_28 => k_mem); (case U1_28 => k_updF); (case U2_28 => (intro xK; k_updF)); (case U3_28 => (intro xK yK; k_updF)); (case U4_28 => (intro xK yK zK; k_updF)); (case U5_28 => (intro xK yK zK uK; k_updF)); (case D_28 => assumption); (case h3_28 => walk_at "MINE om"); (case h4_28 => walk_at "MINE om"); (case h5_28 => walk_at "MINE om"); (case hd_28 => walk_at "MINE room"); k_whole; intro h'K tk'K ot'K lg'K tp'K u1K u2K F'K N'K l1K l2K D'K; (try simp only [List.forall_mem_cons, List.not_mem_nil, false_implies, implies_true, and_true] at l1K); (try dsimp only [List.cons_append, List.nil_append] at N'K)))
  k_with "MINE get" => first | (refine' Fr.keep ?fr_29 _ _ ?gt_29; (case fr_29 => k_asm); (case gt_29 => assumption)) | (refine' Fr.keep ?fr_29 _ _ (Below.stays ?kb_29 _ _ ?bt_29); (case fr_29 => k_asm); (case kb_29 => assumption); (case bt_29 => assumption)) | (refine' news_at ?nn_29 ?mm_29; (case nn_29 => k_asm); (case mm_29 => k_mem))
  k_with "MINE stays" => first | exact Below.stays (by assumption) | assumption
  k_with "getAttr ref" => (k_here; (refine' it_amount ?I_31 ?F_31 ?X_31 ?B_31 ?_; (case I_31 => assumption); (case F_31 => k_asm); (case X_31 => k_asm); (case B_31 => walk_at "MINE stays"); k_whole; intro t'K))
  k_with "getMethod ref" => (k_here; (refine' it_kmeth ?I_32 ?F_32 ?X_32 ?B_32 ?_; (case I_32 => assumption); (case F_32 => k_asm); (case X_32 => k_asm); (case B_32 => walk_at "MINE stays"); k_whole))
  k_with "getMethod ref" => (k_here; (refine' it_gmeth ?I_33 ?F_33 ?X_33 ?B_33 ?_; (case I_33 => assumption); (case F_33 => k_asm); (case X_33 => k_asm); (case B_33 => walk_at "MINE stays"); k_whole))
  k_with "call ref" => (k_here; (with_reducible show wpAny _ _ (call (Value.ref 458) _) _ _ _); (refine' it_kf ?I_34 ?F_34 ?N_34 ?B_34 ?d_34 ?_; (case I_34 => assumption); (case F_34 => k_asm); (case N_34 => k_asm); (case B_34 => walk_at "MINE stays"); (case d_34 => walk_at "MINE room"); k_whole; intro h'K tk'K t'K F'K N'K; (try k_sweep)))
  k_with "call ref" => (k_here; (with_reducible show wpAny _ _ (call (Value.ref 451) _) _ _ _); (refine' it_ge ?I_35 ?F_35 ?N_35 ?B_35 ?d_35 ?_; (case I_35 => assumption); (case F_35 => k_asm); (case N_35 => k_asm); (case B_35 => walk_at "MINE stays"); (case d_35 => walk_at "MINE room"); k_whole; intro h'K tk'K t'K F'K N'K; (try k_sweep)))
  k_with "call ref" => (k_here; (with_reducible show wpAny _ _ (call (Value.ref 132) _) _ _ _); (refine' (by assumption : WsC _ _ _) _ _ _ _ _ _ _ _ _ _ _ _ _ _ ?F_36 ?N_36 ?X_36 ?T_36 ?d_36 ?_; (case F_36 => k_asm); (case N_36 => k_asm); (case X_36 => k_asm); (case T_36 => k_asm); (case d_36 => walk_at "MINE room"); k_whole; intro h'K tk'K x'K dx'K F'K N'K l1K l2K l3K k1K k2K k3K; (try simp only [List.forall_mem_cons, List.not_mem_nil, false_implies, implies_true, and_true] at l1K); (try simp only [List.forall_mem_cons, List.not_mem_nil, false_implies, implies_true, and_true] at l2K); (try k_sweep)))
  k_with "call builtin:max" => (k_here; (refine' max2 ?h_37 ?F_37 ?N_37 ?_; (case h_37 => assumption); (case F_37 => k_asm); (case N_37 => k_asm); k_whole; intro h'K tk'K t'K F'K N'K; (try k_sweep)))
  k_with "call builtin:min" => (k_here; (refine' min2 ?h_38 ?F_38 ?N_38 ?_; (case h_38 => assumption); (case F_38 => k_asm); (case N_38 => k_asm); k_whole; intro h'K tk'K t'K F'K N'K; (try k_sweep)))
  k_with "call ref" => (k_here; (with_reducible show wpAny _ _ (call (Value.ref 638) _) _ _ _); (refine' getexp_use ?C_39 ?ok_39 ?F_39 ?N_39 ?ms_39 ?me_39 ?mv_39 ?U1_39 ?U2_39 ?U3_39 ?X_39 ?T_39 ?I_39 ?hE_39 ?hc_39 ?hd_39 ?_; (case C_39 => k_asm); (case ok_39 => k_asm); (case F_39 => k_asm); (case N_39 => k_asm); (case ms_39 => k_mem); (case me_39 => k_mem); (case mv_39 => k_mem); (case U1_39 => k_updF); (case U2_39 => (intro xK; k_updF)); (case U3_39 => (intro xK yK; k_updF)); (case X_39 => k_asm); (case T_39 => k_asm); (case I_39 => k_asm); (case hE_39 => k_asm); (case hc_39 => walk_at "MINE om"); (case hd_39 => walk_at "MINE room"); k_whole; intro h'K tk'K t'K F'K N'K; (try dsimp only at N'K); (try k_sweep)))
  k_with "call ref" => (k_here; (with_reducible show wpAny _ _ (call (Value.ref 667) _) _ _ _); (refine' getsw_use ?C_40 ?ok_40 ?F_40 ?N_40 ?ms_40 ?me_40 ?mv_40 ?U1_40 ?U2_40 ?U3_40 ?X_40 ?T_40 ?I_40 ?hV_40 ?hS_40 ?hE_40 ?hc_40 ?h0_40 ?h1_40 ?h2_40 ?hk_40 ?hd_40 ?_; (case C_40 => k_asm); (case ok_40 => k_asm); (case F_40 => k_asm); (case N_40 => k_asm); (case ms_40 => k_mem); (case me_40 => k_mem); (case mv_40 => k_mem); (case U1_40 => k_updF); (case U2_40 => (intro xK; k_updF)); (case U3_40 => (intro xK yK; k_updF)); (case X_40 => k_asm); (case T_40 => k_asm); (case I_40 => k_asm); (case hV_40 => exact VObj.cls (by assumption)); (case hS_40 => k_asm); (case hE_40 => k_asm); (case hc_40 => walk_at "MINE om"); (case h0_40 => walk_at "MINE om"); (case h1_40 => walk_at "MINE om"); (case h2_40 => walk_at "MINE om"); (case hk_40 => assumption); (case hd_40 => walk_at "MINE room"); k_whole; intro h'K tk'K os'K oe'K tp'K u1K u2K u3K u4K F'K N'K l1K hS'K hE'K; (try simp only [List.forall_mem_cons, List.not_mem_nil, false_implies, implies_true, and_true] at l1K); (try dsimp only at N'K); (try k_sweep)))
  k_with "call ref" => (k_here; (with_reducible show wpAny _ _ (call (Value.ref 674) _) _ _ _); (refine' clearsw_use ?C_41 ?ok_41 ?F_41 ?N_41 ?ms_41 ?me_41 ?mv_41 ?U1_41 ?U2_41 ?U3_41 ?X_41 ?T_41 ?I_41 ?hS_41 ?hE_41 ?hV_41 ?hc_41 ?h0_41 ?h1_41 ?h2_41 ?hk_41 ?hd_41 ?_; (case C_41 => k_asm); (case ok_41 => k_asm); (case F_41 => k_asm); (case N_41 => k_asm); (case ms_41 => k_mem); (case me_41 => k_mem); (case mv_41 => k_mem); (case U1_41 => k_updF); (case U2_41 => (intro xK; k_updF)); (case U3_41 => (intro xK yK; k_updF)); (case X_41 => k_asm); (case T_41 => k_asm); (case I_41 => k_asm); (case hS_41 => k_asm); (case hE_41 => k_asm); (case hV_41 => k_asm); (case hc_41 => walk_at "MINE om"); (case h0_41 => walk_at "MINE om"); (case h1_41 => walk_at "MINE om"); (case h2_41 => walk_at "MINE om"); (case hk_41 => assumption); (case hd_41 => walk_at "MINE room"); k_whole; intro h'K tk'K os'K oe'K ov'K F'K N'K hS'K hE'K hV'K; (try dsimp only at N'K); (try k_sweep)))
  k_with "call ref" => (k_here; (with_reducible show wpAny _ _ (call (Value.ref 653) _) _ _ _); (refine' acqsw_use ?C_42 ?ok_42 ?F_42 ?N_42 ?ms_42 ?me_42 ?mv_42 ?U1_42 ?U2_42 ?U3_42 ?X_42 ?T_42 ?I_42 ?hV_42 ?hS_42 ?hE_42 ?hc_42 ?h0_42 ?h1_42 ?h2_42 ?hk_42 ?hb_42 ?hd_42 ?_; (case C_42 => k_asm); (case ok_42 => k_asm); (case F_42 => k_asm); (case N_42 => k_asm); (case ms_42 => k_mem); (case me_42 => k_mem); (case mv_42 => k_mem); (case U1_42 => k_updF); (case U2_42 => (intro xK; k_updF)); (case U3_42 => (intro xK yK; k_updF)); (case X_42 => k_asm); (case T_42 => k_asm); (case I_42 => k_asm); (case hV_42 => exact VObj.cls (by assumption)); (case hS_42 => k_asm); (case hE_42 => k_asm); (case hc_42 => walk_at "MINE om"); (case h0_42 => walk_at "MINE om"); (case h1_42 => walk_at "MINE om"); (case h2_42 => walk_at "MINE om"); (case hk_42 => assumption); (case hb_42 => assumption); (case hd_42 => walk_at "MINE room"); k_whole; intro h'K tk'K os'K oe'K F'K N'K hS'K hE'K; (try dsimp only at N'K); (try k_sweep)))
  k_with "call ref" => (k_here; (with_reducible show wpAny _ _ (call (Value.ref 257) _) _ _ _); (refine' (by assumption : WcC _ _ _) _ _ _ _ _ _ _ _ _ _ _ _ _ _ _ _ _ _ _ _ _ _ _ _ _ ?F_43 ?N_43 ?X_43 ?T_43 ?B_43 ?I_43 ?a_43 ?b_43 ?c_43 ?e_43 ?d_43 ?_; (case I_43 => assumption); (case F_43 => k_asm); (case N_43 => k_asm); (case X_43 => k_asm); (case T_43 => k_asm); (case B_43 => walk_at "MINE stays"); (case a_43 => walk_at "MINE om"); (case b_43 => walk_at "MINE om"); (case c_43 => walk_at "MINE om"); (case e_43 => walk_at "MINE om"); (case d_43 => walk_at "MINE room"); k_whole; intro h'K tk'K t'K F'K N'K; (try k_sweep)))
  k_with "eval Name" => (k_here; k_dflt (refine' nameX_L ?F_zn ?v_zn ?_ ?a_zn ?b_zn; (case F_zn => k_asm); (case a_zn => rfl); (case b_zn => rfl); (case v_zn => rfl); k_whole))
  trivial

theorem c_hit1 (w : World) (hA : AcqC (Mine.kmake.heap_1 w.params) PySem.Challenge.pw_jo0040_02 w) : LimK (Mine.kmake.heap_1 w.params) PySem.Challenge.pw_jo0040_02 w 181 202 b4 1 hit1S (fun σ now key amount ex cost v _ _ => isB (hit1R σ now key amount ex cost) v) := by
  have hfill : (PySem.Challenge.rw_jo0040_02 = PySem.Challenge.rw_jo0040_02) ∧ (Mine.kmake.heap_1 = Mine.kmake.heap_1) := by k_fill; exact ⟨rfl, rfl⟩
  clear hfill
  intro p loose mean mg mb S now O A s base outer lim it tp key amount ex cost tc σ c lg args Q P hLim I hen hnow hc0 hc1 hcc hb hd ret
  obtain ⟨Z, KB, hs, he, hv, ht, ht5, D⟩ := id P
  obtain ⟨ok, o5, XB, TBp, C1, C2, IB, hlgb⟩ := id Z
  have TB := topRead_of TBp
  obtain ⟨n1, n2, n3, l1, l2, l3, b1⟩ := id ok
  obtain ⟨n4, n5⟩ := id o5
  obtain ⟨dl, tl, hl1, hl2⟩ := hLim
  have X : (Mine.kmake.heap_1 w.params).In (hideAll s.heap S.M) := XB.keeps KB.stays
  have T : TopRead p loose mg mb (hideAll s.heap S.M) := TB.keeps KB.stays
  have Tp : Top p loose mean mg mb (hideAll s.heap S.M) := TBp.keeps KB.stays
  have II : StI PySem.Challenge.pw_jo0040_02 w (hideAll s.heap S.M) S now := IB.keeps KB.stays
  have hroom' := hd.d
  have hh := hd.h
  have hu := hd.u
  have hSd := D.s
  have hEd := D.e
  have hVd := D.v
  have hbd := D.b
  have hS0 := D.hc
  have hex := I.hx
  have ham := I.ha
  have hkl : key.length ≤ 1000 := Nat.le_trans I.hk (by decide)
  refine' enter (Wl := S.M) (news := five S O) (binds := b4 lim it tp cost tc) X T P.own ?ho ?hcd ?hroom ?hbind ?hloc ?_ ?c2 ?c3 ?c4 ?c5
  (case ho => k_is); (case hcd => k_is); (case hroom => walk_at "MINE om"); (case hbind => exact hb _ _ _ _ (by k_is)); (case c5 => decide); (case hloc => exact locs rfl); (case c2 => exact rfl); (case c3 => exact rfl); (case c4 => exact rfl)
  intro L' h₁ F N lt
  (try dsimp only [List.reverse, List.reverseAux] at F)
  clear hs he hv ht ht5 lt
  generalize hg : hideAll s.heap S.M = g at *
  have i1 := II.i1
  have i2 := II.i2
  obtain ⟨fcc, fcd, fcf, fcs, hfc⟩ := II.fn
  have hnb := II.bnd
  have gl1 : g.get? lim = some _ := KB.stays _ _ hl1
  have gl2 : g.get? dl = some _ := KB.stays _ _ hl2
  (try k_fold)
  k_steps
  (refine' ret _ _ _ _ _ _ (aft_at hg ?T ?F ?N ?mt ?m5 ?ms ?me ?mv ?hl ?D) ?_; (case D => assumption); (case F => k_asm); (case T => first | assumption | exact KtsTurn.refl); (case N => k_asm); (case mt => k_mem); (case m5 => k_mem); (case ms => k_mem); (case me => k_mem); (case mv => k_mem); (case hl => exact fun q hq => ⟨by simp [hq], (by assumption : ∀ q ∈ _, q.1 ∉ S.M) q hq⟩))
  exact rfl
theorem c_test1 (w : World) (hG : GmwC (Mine.kmake.heap_1 w.params) PySem.Challenge.pw_jo0040_02 w gmwPos) : LimK (Mine.kmake.heap_1 w.params) PySem.Challenge.pw_jo0040_02 w 190 202 b4 0 (fun σ _ _ _ _ _ => σ) (fun σ now key amount ex cost v _ _ => isB (test1R σ now key amount ex cost) v) := by
  have hfill : (PySem.Challenge.rw_jo0040_02 = PySem.Challenge.rw_jo0040_02) ∧ (Mine.kmake.heap_1 = Mine.kmake.heap_1) := by k_fill; exact ⟨rfl, rfl⟩
  clear hfill
  intro p loose mean mg mb S now O A s base outer lim it tp key amount ex cost tc σ c lg args Q P hLim I hen hnow hc0 hc1 hcc hb hd ret
  obtain ⟨Z, KB, hs, he, hv, ht, ht5, D⟩ := id P
  obtain ⟨ok, o5, XB, TBp, C1, C2, IB, hlgb⟩ := id Z
  have TB := topRead_of TBp
  obtain ⟨n1, n2, n3, l1, l2, l3, b1⟩ := id ok
  obtain ⟨n4, n5⟩ := id o5
  obtain ⟨dl, tl, hl1, hl2⟩ := hLim
  have X : (Mine.kmake.heap_1 w.params).In (hideAll s.heap S.M) := XB.keeps KB.stays
  have T : TopRead p loose mg mb (hideAll s.heap S.M) := TB.keeps KB.stays
  have Tp : Top p loose mean mg mb (hideAll s.heap S.M) := TBp.keeps KB.stays
  have II : StI PySem.Challenge.pw_jo0040_02 w (hideAll s.heap S.M) S now := IB.keeps KB.stays
  have hroom' := hd.d
  have hh := hd.h
  have hu := hd.u
  have hSd := D.s
  have hEd := D.e
  have hVd := D.v
  have hbd := D.b
  have hS0 := D.hc
  have hex := I.hx
  have ham := I.ha
  have hkl : key.length ≤ 1000 := Nat.le_trans I.hk (by decide)
  refine' enter (Wl := S.M) (news := five S O) (binds := b4 lim it tp cost tc) X T P.own ?ho ?hcd ?hroom ?hbind ?hloc ?_ ?c2 ?c3 ?c4 ?c5
  (case ho => k_is); (case hcd => k_is); (case hroom => walk_at "MINE om"); (case hbind => exact hb _ _ _ _ (by k_is)); (case c5 => decide); (case hloc => exact locs rfl); (case c2 => exact rfl); (case c3 => exact rfl); (case c4 => exact rfl)
  intro L' h₁ F N lt
  (try dsimp only [List.reverse, List.reverseAux] at F)
  clear hs he hv ht ht5 lt
  generalize hg : hideAll s.heap S.M = g at *
  have i1 := II.i1
  have i2 := II.i2
  obtain ⟨fcc, fcd, fcf, fcs, hfc⟩ := II.fn
  have hnb := II.bnd
  have gl1 : g.get? lim = some _ := KB.stays _ _ hl1
  have gl2 : g.get? dl = some _ := KB.stays _ _ hl2
  (try k_fold)
  k_steps
  (refine' ret _ _ _ _ _ _ (aft_at hg ?T ?F ?N ?mt ?m5 ?ms ?me ?mv ?hl ?D) ?_; (case D => assumption); (case F => k_asm); (case T => first | assumption | exact KtsTurn.refl); (case N => k_asm); (case mt => k_mem); (case m5 => k_mem); (case ms => k_mem); (case me => k_mem); (case mv => k_mem); (case hl => exact fun q hq => ⟨by simp [hq], (by assumption : ∀ q ∈ _, q.1 ∉ S.M) q hq⟩))
  exact rfl
theorem c_stats1 (w : World) (hG : GmwC (Mine.kmake.heap_1 w.params) PySem.Challenge.pw_jo0040_02 w gmwPos) (hWs : WsC (Mine.kmake.heap_1 w.params) PySem.Challenge.pw_jo0040_02 w) : LimK (Mine.kmake.heap_1 w.params) PySem.Challenge.pw_jo0040_02 w 199 202 b3 0 (fun σ _ _ _ _ _ => σ) (fun σ now key amount ex _ v h' h => WsAt (reset1 σ now key amount ex, 1) false (left1 σ now key amount ex) v h' h) := by
  have hfill : (PySem.Challenge.rw_jo0040_02 = PySem.Challenge.rw_jo0040_02) ∧ (Mine.kmake.heap_1 = Mine.kmake.heap_1) := by k_fill; exact ⟨rfl, rfl⟩
  clear hfill
  intro p loose mean mg mb S now O A s base outer lim it tp key amount ex cost tc σ c lg args Q P hLim I hen hnow hc0 hc1 hcc hb hd ret
  obtain ⟨Z, KB, hs, he, hv, ht, ht5, D⟩ := id P
  obtain ⟨ok, o5, XB, TBp, C1, C2, IB, hlgb⟩ := id Z
  have TB := topRead_of TBp
  obtain ⟨n1, n2, n3, l1, l2, l3, b1⟩ := id ok
  obtain ⟨n4, n5⟩ := id o5
  obtain ⟨dl, tl, hl1, hl2⟩ := hLim
  have X : (Mine.kmake.heap_1 w.params).In (hideAll s.heap S.M) := XB.keeps KB.stays
  have T : TopRead p loose mg mb (hideAll s.heap S.M) := TB.keeps KB.stays
  have Tp : Top p loose mean mg mb (hideAll s.heap S.M) := TBp.keeps KB.stays
  have II : StI PySem.Challenge.pw_jo0040_02 w (hideAll s.heap S.M) S now := IB.keeps KB.stays
  have hroom' := hd.d
  have hh := hd.h
  have hu := hd.u
  have hSd := D.s
  have hEd := D.e
  have hVd := D.v
  have hbd := D.b
  have hS0 := D.hc
  have hex := I.hx
  have ham := I.ha
  have hkl : key.length ≤ 1000 := Nat.le_trans I.hk (by decide)
  refine' enter (Wl := S.M) (news := five S O) (binds := b3 lim it tp cost tc) X T P.own ?ho ?hcd ?hroom ?hbind ?hloc ?_ ?c2 ?c3 ?c4 ?c5
  (case ho => k_is); (case hcd => k_is); (case hroom => walk_at "MINE om"); (case hbind => exact hb _ _ _ _ (by k_is)); (case c5 => decide); (case hloc => exact locs rfl); (case c2 => exact rfl); (case c3 => exact rfl); (case c4 => exact rfl)
  intro L' h₁ F N lt
  (try dsimp only [List.reverse, List.reverseAux] at F)
  clear hs he hv ht ht5 lt
  generalize hg : hideAll s.heap S.M = g at *
  have i1 := II.i1
  have i2 := II.i2
  obtain ⟨fcc, fcd, fcf, fcs, hfc⟩ := II.fn
  have hnb := II.bnd
  have gl1 : g.get? lim = some _ := KB.stays _ _ hl1
  have gl2 : g.get? dl = some _ := KB.stays _ _ hl2
  (try k_fold)
  k_steps
  (refine' ret _ _ _ _ _ _ (aft_at hg ?T ?F ?N ?mt ?m5 ?ms ?me ?mv ?hl ?D) ?_; (case D => assumption); (case F => k_asm); (case T => first | assumption | exact KtsTurn.refl); (case N => k_asm); (case mt => k_mem); (case m5 => k_mem); (case ms => k_mem); (case me => k_mem); (case mv => k_mem); (case hl => exact fun q hq => ⟨by simp [hq], (by assumption : ∀ q ∈ _, q.1 ∉ S.M) q hq⟩))
  (refine' ⟨_, _, _, _, rfl, news_at ?N1 ?m1, news_at ?N2 ?m2, goneM hg ?N3 ?m3 ?n3, goneM hg ?N4 ?m4 ?n4, ?ne, ?r⟩; (case N1 => k_asm); (case m1 => k_mem); (case N2 => k_asm); (case m2 => k_mem); (case N3 => k_asm); (case m3 => k_mem); (case n3 => walk_at "MINE om"); (case N4 => k_asm); (case m4 => k_mem); (case n4 => walk_at "MINE om"); (case ne => assumption); (case r => (rw [if_neg (by decide)]; exact ⟨_, rfl⟩)))

theorem reg_CLs : True := by
  k_with_none
  k_with "MINE pj" => (first | with_reducible assumption | exact an0 (by with_reducible assumption) | exact an1 (by with_reducible assumption) | exact an2 (by with_reducible assumption) | exact an3 (by with_reducible assumption) | exact an4 (by with_reducible assumption) | exact an5 (by with_reducible assumption) | exact an6 (by with_reducible assumption) | exact an7 (by with_reducible assumption) | exact an8 (by with_reducible assumption) | exact an9 (by with_reducible assumption) | exact bn1 (by with_reducible assumption) | exact bn2 (by with_reducible assumption) | exact bn3 (by with_reducible assumption) | exact bn4 (by with_reducible assumption) | exact bn5 (by with_reducible assumption) | exact bn6 (by with_reducible assumption) | exact bn7 (by with_reducible assumption) | exact bn8 (by with_reducible assumption))
  k_with "MINE lt" => (first | walk_at "MINE pj" | (with_reducible refine Nat.lt_trans ?_ (by with_reducible assumption); walk_at "MINE lt"))
  k_with "MINE ne" => (with_reducible refine neN ?_; (try dsimp only); first | with_reducible assumption | (refine Ne.symm ?_; with_reducible assumption) | (refine Nat.ne_of_lt ?_; with_reducible assumption) | (refine Nat.ne_of_gt ?_; with_reducible assumption) | (simp only [*, ne_eq, not_false_eq_true]; done) | (refine Ne.symm ?_; (simp only [*, ne_eq, not_false_eq_true]; done)) | (refine Nat.ne_of_lt ?_; (simp only [*]; done)) | (refine Nat.ne_of_gt ?_; (simp only [*]; done)) | assumption | decide | (refine Nat.ne_of_gt ?_; walk_at "MINE lt") | (refine Nat.ne_of_lt ?_; walk_at "MINE lt") | lia | omega)
  k_with "MINE nes" => (repeat' (first | (refine And.intro ?_ ?_) | (with_reducible refine neN ?_; walk_at "MINE ne")))
  k_with "MINE om" => (first | with_reducible assumption | exact Nat.le_of_ble_eq_true rfl | exact an0 (by with_reducible assumption) | exact bn1 (by with_reducible assumption) | exact an1 (by with_reducible assumption) | exact Nat.lt_of_le_of_lt (Nat.le_add_right _ _) (by with_reducible assumption) | exact Int.lt_trans (by with_reducible assumption) (by decide) | exact Int.lt_trans (bn1 (by with_reducible assumption)) (by decide) | exact Int.lt_of_lt_of_le (by decide) (by with_reducible assumption) | exact Int.lt_of_lt_of_le (by decide) (an0 (by with_reducible assumption)) | exact Nat.le_trans (by with_reducible assumption) (by decide) | exact Int.le_of_lt (by with_reducible assumption) | exact Int.le_trans (by with_reducible assumption) (by decide) | exact Int.lt_of_le_of_lt (by with_reducible assumption) (by decide) | decide | (walk_at "MINE nes"; done) | lia | omega)
  k_with "getMethod ref" => (k_here; k_dflt (refine' dMethI ?N_0 ?m_0 ?d_0 ?i_0 ?_; (case N_0 => k_asm); (case m_0 => k_mem); (case d_0 => k_asm); (case i_0 => exact rfl); k_whole))
  k_with "call builtin:dict.get" => (k_here; k_dflt (refine' dGetI ?N_1 ?m_1 ?d_1 ?lo_1 ?_; (case N_1 => k_asm); (case m_1 => k_mem); (case d_1 => k_asm); (case lo_1 => k_asm); k_whole; intro t'K))
  k_with "call builtin:dict.pop" => (k_here; k_dflt (refine' dPopI ?F_2 ?N_2 ?U_2 ?d_2 ?lo_2 ?z_2 ?_; (case F_2 => k_asm); (case N_2 => k_asm); (case U_2 => k_updF); (case d_2 => k_asm); (case lo_2 => k_asm); (case z_2 => walk_at "MINE om"); k_whole; intro h'K o'K v'K F'K N'K hd'K; (try dsimp only at N'K); (try k_sweep)))
  k_with "getMethod ref" => (k_here; k_dflt (refine' dMethV ?N_3 ?m_3 ?d_3 ?i_3 ?_; (case N_3 => k_asm); (case m_3 => k_mem); (case d_3 => k_asm); (case i_3 => exact rfl); k_whole))
  k_with "call builtin:dict.pop" => (k_here; k_dflt (refine' dPopV ?F_4 ?N_4 ?U_4 ?d_4 ?lo_4 ?z_4 ?_; (case F_4 => k_asm); (case N_4 => k_asm); (case U_4 => k_updF); (case d_4 => k_asm); (case lo_4 => k_asm); (case z_4 => walk_at "MINE om"); k_whole; intro h'K o'K v'K F'K N'K hd'K; (try dsimp only at N'K); (try k_sweep)))
  k_with "setItem ref str" => (k_here; k_dflt (refine' dSetI ?F_5 ?N_5 ?U_5 ?d_5 ?z_5 ?_; (case F_5 => k_asm); (case N_5 => k_asm); (case U_5 => k_updF); (case d_5 => k_asm); (case z_5 => walk_at "MINE om"); k_whole; intro h'K o'K F'K N'K hd'K; (try dsimp only at N'K); (try k_sweep)))
  k_with "subscriptTail" => (k_here; (with_reducible show wpAny _ _ (subscriptTail _ _ (Value.ref _) (Value.str _ _)) _ _ _); k_dflt (refine' dTailI ?N_6 ?m_6 ?d_6 ?_; (case N_6 => k_asm); (case m_6 => k_mem); (case d_6 => k_asm); k_whole))
  k_with "getItem ref str" => (k_here; k_dflt (refine' dItemI ?N_7 ?m_7 ?d_7 ?v_7 ?_; (case N_7 => k_asm); (case m_7 => k_mem); (case d_7 => k_asm); (case v_7 => first | k_asm | exact if_pos rfl); k_whole; intro t'K))
  k_with "getAttr ref" => (k_here; k_dflt (refine' getOwnG ?k1_8 ?k2_8 ?i1_8 ?i2_8 ?k4_8 ?k5_8 ?k6_8 ?k7_8 ?k8_8 ?k9_8 ?_; (case k1_8 => k_asm); (case k2_8 => k_asm); (case i1_8 => k_asm); (case i2_8 => k_asm); (case k4_8 => k_is); (case k5_8 => k_is); (case k6_8 => k_is); (case k7_8 => k_is); (case k8_8 => k_get); (case k9_8 => k_handed); k_whole))
  k_with "getMethod ref" => (k_here; k_dflt (refine' methG ?k1_9 ?k2_9 ?i1_9 ?i2_9 ?k4_9 ?k5_9 ?k6_9 ?k7_9 ?_; (case k1_9 => k_asm); (case k2_9 => k_asm); (case i1_9 => k_asm); (case i2_9 => k_asm); (case k4_9 => k_is); (case k5_9 => k_is); (case k6_9 => k_is); (case k7_9 => k_get); k_whole))
  k_with "getMethod ref" => (k_here; k_dflt (refine' kmuOwnG ?k1_10 ?k2_10 ?i1_10 ?i2_10 ?k4_10 ?k5_10 ?_; (case k1_10 => k_asm); (case k2_10 => k_asm); (case i1_10 => k_asm); (case i2_10 => k_asm); (case k4_10 => k_is); (case k5_10 => k_is); k_whole))
  k_with "callWith ref" => (k_here; (with_reducible show wpAny _ _ (callWith _ (Value.ref _) [] (backTo _ (starEach [] _)) []) _ _ _); k_dflt (refine' callFn0 ?k1_11 ?k2_11 ?_; (case k1_11 => k_asm); (case k2_11 => k_asm); k_whole))
  k_with "callWith ref" => (k_here; (with_reducible show wpAny _ _ (callWith _ (Value.ref _) _ (backTo _ (starEach (_ :: _) _)) []) _ _ _); k_dflt (first | (refine' callWith_K ?k1_12 ?k2_12 ?_; (case k1_12 => k_asm); (case k2_12 => k_is); k_whole) | (refine' callWith_M ?k1_12 ?k2_12 ?k3_12 ?k4_12 ?_; (case k1_12 => k_asm); (case k2_12 => k_asm); (case k3_12 => k_mem); (case k4_12 => k_is); k_whole)))
  k_with "MINE room" => (first | assumption | exact ArOk.down (by assumption) (by walk_at "MINE om"))
  k_with "call ref" => (k_here; k_dflt (refine' clk_use ?C_14 ?F_14 ?N_14 ?d_14 ?_; (case C_14 => k_asm); (case F_14 => k_asm); (case N_14 => k_asm); (case d_14 => walk_at "MINE room"); k_whole; intro h'K tk'K t'K F'K N'K; (try k_sweep)))
  k_with "call ref" => (k_here; (with_reducible show wpAny _ _ (call (Value.ref 616) _) _ _ _); k_dflt (refine' get_use ?C_15 ?ok_15 ?F_15 ?N_15 ?ms_15 ?me_15 ?mv_15 ?U1_15 ?U2_15 ?U3_15 ?X_15 ?T_15 ?I_15 ?hS_15 ?hE_15 ?hc_15 ?hd_15 ?_; (case C_15 => k_asm); (case ok_15 => k_asm); (case F_15 => k_asm); (case N_15 => k_asm); (case ms_15 => k_mem); (case me_15 => k_mem); (case mv_15 => k_mem); (case U1_15 => k_updF); (case U2_15 => (intro xK; k_updF)); (case U3_15 => (intro xK yK; k_updF)); (case X_15 => k_asm); (case T_15 => k_asm); (case I_15 => k_asm); (case hS_15 => k_asm); (case hE_15 => k_asm); (case hc_15 => walk_at "MINE om"); (case hd_15 => walk_at "MINE room"); k_whole; intro h'K tk'K t'K os'K oe'K F'K N'K hS'K hE'K; (try dsimp only at N'K); (try k_sweep)))
  k_with "MINE enter" => (
  (case ho => k_is); (case hcd => k_is); (case hroom => walk_at "MINE om"); (case hbind => first | exact BindsTo.of_eq rfl | exact binds_K (by k_in) rfl (by k_is) rfl rfl rfl);
  (case c5 => decide); (case hloc => exact locs rfl); (case c2 => exact rfl); (case c3 => exact rfl); (case c4 => exact rfl))
  k_with "MINE exit" => ((case F => k_asm); (case N => k_asm); (case a => k_mem); (case b => k_mem); (case c => k_mem))
  k_with "formatField int" => (k_here; (with_reducible show wpAny _ _ (formatField (Value.int _ _) _) _ _ _); k_dflt (refine' fmtI ?a_18 ?b_18 ?_; (case a_18 => walk_at "MINE om"); (case b_18 => walk_at "MINE om"); k_whole; intro hy'K t'K))
  k_with "And" => ((with_reducible show PySem.Str.length (_ ++ _) ≤ sizeLine ∧ wpAny _ _ (joinParts _ _) _ _ _); refine ⟨?a_19, ?_⟩; (case a_19 => (simp only [Str.length_append, Str.empty_append, slk_one, sizeLine_eq]; walk_at "MINE om")))
  k_with "getMethod ref" => (k_here; k_dflt (refine' kmuCmG ?k1_20 ?k2_20 ?k3_20 ?i1_20 ?i2_20 ?k5_20 ?k6_20 ?k7_20 ?k8_20 ?k9_20 ?k10_20 ?k11_20 ?k12_20 ?k13_20 ?_; (case k1_20 => k_asm); (case k2_20 => k_asm); (case k3_20 => k_asm); (case i1_20 => k_asm); (case i2_20 => k_asm); (case k5_20 => k_is); (case k6_20 => k_is); (case k7_20 => k_is); (case k8_20 => k_is); (case k9_20 => k_is); (case k10_20 => k_is); (case k11_20 => decide +kernel); (case k12_20 => k_get); (case k13_20 => k_is); k_whole; intro q'K h'K F'K N'K l1K; (try k_lt l1K); (try k_sweep)))
  k_with "call ref" => (k_here; k_dflt (refine' keys_use ?C_21 ?F_21 ?N_21 ?q_21 ?X_21 ?T_21 ?h0_21 ?h1_21 ?h2_21 ?hk_21 ?hd_21 ?_; (case C_21 => k_asm); (case F_21 => k_asm); (case N_21 => k_asm); (case q_21 => k_mem); (case X_21 => k_asm); (case T_21 => k_asm); (case h0_21 => walk_at "MINE om"); (case h1_21 => walk_at "MINE om"); (case h2_21 => walk_at "MINE om"); (case hk_21 => assumption); (case hd_21 => walk_at "MINE room"); k_whole; intro h'K tk'K tp'K u1K u2K F'K N'K l1K; (try simp only [List.forall_mem_cons, List.not_mem_nil, false_implies, implies_true, and_true] at l1K); (try k_sweep)))
  k_with "call ref" => (k_here; (with_reducible show wpAny _ _ (call (Value.ref 660) _) _ _ _); k_dflt (refine' info_use ?C_22 ?ok_22 ?F_22 ?N_22 ?ms_22 ?me_22 ?mv_22 ?U1_22 ?U2_22 ?U3_22 ?X_22 ?T_22 ?I_22 ?hV_22 ?hS_22 ?hE_22 ?hc_22 ?h0_22 ?hd_22 ?_; (case C_22 => k_asm); (case ok_22 => k_asm); (case F_22 => k_asm); (case N_22 => k_asm); (case ms_22 => k_mem); (case me_22 => k_mem); (case mv_22 => k_mem); (case U1_22 => k_updF); (case U2_22 => (intro xK; k_updF)); (case U3_22 => (intro xK yK; k_updF)); (case X_22 => k_asm); (case T_22 => k_asm); (case I_22 => k_asm); (case hV_22 => k_asm); (case hS_22 => k_asm); (case hE_22 => k_asm); (case hc_22 => walk_at "MINE om"); (case h0_22 => walk_at "MINE om"); (case hd_22 => walk_at "MINE room"); k_whole; intro h'K tk'K os'K oe'K tp'K u1K u2K u3K u4K F'K N'K l1K hS'K hE'K; (try simp only [List.forall_mem_cons, List.not_mem_nil, false_implies, implies_true, and_true] at l1K); (try dsimp only at N'K); (try k_sweep)))
  k_with "call ref" => (k_here; (with_reducible show wpAny _ _ (call (Value.ref 601) _ _) _ _ _); k_dflt (refine' incr_use ?C_23 ?ok_23 ?F_23 ?N_23 ?ms_23 ?me_23 ?mv_23 ?U1_23 ?U2_23 ?U3_23 ?X_23 ?T_23 ?I_23 ?hS_23 ?hE_23 ?hc_23 ?hd_23 ?_; (case C_23 => k_asm); (case ok_23 => k_asm); (case F_23 => k_asm); (case N_23 => k_asm); (case ms_23 => k_mem); (case me_23 => k_mem); (case mv_23 => k_mem); (case U1_23 => k_updF); (case U2_23 => (intro xK; k_updF)); (case U3_23 => (intro xK yK; k_updF)); (case X_23 => k_asm); (case T_23 => k_asm); (case I_23 => k_asm); (case hS_23 => k_asm); (case hE_23 => k_asm); (case hc_23 => walk_at "MINE om"); (case hd_23 => walk_at "MINE room"); k_whole; intro h'K tk'K t'K os'K oe'K F'K N'K hS'K hE'K; (try dsimp only at N'K); (try k_sweep)))
  k_with "call ref" => (k_here; (with_reducible show wpAny _ _ (call (Value.ref 623) _) _ _ _); k_dflt (refine' clear_use ?C_24 ?ok_24 ?F_24 ?N_24 ?ms_24 ?me_24 ?mv_24 ?U1_24 ?U2_24 ?U3_24 ?X_24 ?T_24 ?I_24 ?hS_24 ?hE_24 ?hV_24 ?hc_24 ?hd_24 ?_; (case C_24 => k_asm); (case ok_24 => k_asm); (case F_24 => k_asm); (case N_24 => k_asm); (case ms_24 => k_mem); (case me_24 => k_mem); (case mv_24 => k_mem); (case U1_24 => k_updF); (case U2_24 => (intro xK; k_updF)); (case U3_24 => (intro xK yK; k_updF)); (case X_24 => k_asm); (case T_24 => k_asm); (case I_24 => k_asm); (case hS_24 => k_asm); (case hE_24 => k_asm); (case hV_24 => k_asm); (case hc_24 => walk_at "MINE om"); (case hd_24 => walk_at "MINE room"); k_whole; intro h'K tk'K os'K oe'K ov'K F'K N'K hS'K hE'K hV'K; (try dsimp only at N'K); (try k_sweep)))
  k_with "assign Tuple" => (k_here; (with_reducible show wpAny _ _ (assign (Expr.Tuple _ _ _) _ (Value.ref _)) _ _ _); k_dflt (refine' unpackN_ ?k1_25 ?k2_25 ?k3_25 ?k4_25 ?k5_25 ?k6_25 ?_; (case k1_25 => k_asm); (case k2_25 => k_asm); (case k3_25 => kun_tup); (case k4_25 => assumption); (case k5_25 => exact rfl); (case k6_25 => exact rfl); k_whole); intro h'K F'K N'K; (try k_sweep))
  k_with "binaryOp Mult int int" => (k_here; (first | refine PySem.mul_int ?_ (hm := IntMulOk.of_left (intBits_le_64 (by walk_at "MINE om") (by walk_at "MINE om"))) | refine PySem.mul_int ?_ (hm := IntMulOk.of_right (intBits_le_64 (by walk_at "MINE om") (by walk_at "MINE om")))))
  k_with "MINE get" => first | (refine' Fr.keep ?fr_27 _ _ ?gt_27; (case fr_27 => k_asm); (case gt_27 => assumption)) | (refine' Fr.keep ?fr_27 _ _ (Below.stays ?kb_27 _ _ ?bt_27); (case fr_27 => k_asm); (case kb_27 => assumption); (case bt_27 => assumption)) | (refine' news_at ?nn_27 ?mm_27; (case nn_27 => k_asm); (case mm_27 => k_mem))
  k_with "subscriptTail" => (k_here; (with_reducible show wpAny _ _ (subscriptTail _ _ (Value.ref _) (Value.int _ _)) _ _ _); k_dflt (refine' lst_in ?l_28 ?a_28 ?b_28 ?v_28 ?_; (case l_28 => walk_at "MINE get"); (case a_28 => walk_at "MINE om"); (case b_28 => walk_at "MINE om"); (case v_28 => assumption); k_whole))
  k_with "MINE stays" => first | exact Below.stays (by assumption) | assumption
  k_with "getMethod ref" => (k_here; (refine' lim_meth ?M_30 ?F_30 ?X_30 ?B_30 ?I_30 ?_; (case M_30 => first | assumption | exact LimG.mT (by assumption) | exact LimG.mH (by assumption) | exact LimG.mS (by assumption) | exact LimG.mC (by assumption)); (case F_30 => k_asm); (case X_30 => k_asm); (case B_30 => walk_at "MINE stays"); (case I_30 => assumption); k_whole))
  k_with "callWith ref" => (k_here; (refine' callWith_KW ?k1_31 ?k2_31 ?k3_31 ?_; (case k1_31 => k_asm); (case k2_31 => first | exact (LimG.mT (by assumption)).k | exact (LimG.mH (by assumption)).k); (case k3_31 => exact rfl); k_whole))
  k_with "callWith ref" => (k_here; (refine' callWith_K ?k1_32 ?k2_32 ?_; (case k1_32 => k_asm); (case k2_32 => first | exact (LimG.mC (by assumption)).k | exact (LimG.mS (by assumption)).k | exact (LimG.mT (by assumption)).k); k_whole))
  k_with "call ref" => (k_here; (refine' lim_use ?LK_33 ?Z_33 ?KB_33 ?F_33 ?N_33 ?mt_33 ?m5_33 ?ms_33 ?me_33 ?mv_33 ?U1_33 ?U2_33 ?U3_33 ?U4_33 ?U5_33 ?D_33 ?hl_33 ?I_33 ?hen_33 ?hnow_33 ?hc0_33 ?hc1_33 ?hcc_33 ?hb_33 ?hd_33 ?_ ?hk_33; (case LK_33 => first | exact LimG.test (by assumption) | exact LimG.hit (by assumption) | exact LimG.stats (by assumption) | exact LimG.clear (by assumption)); (case hb_33 => first | exact LimG.bT (by assumption) _ _ _ _ _ | exact LimG.bH (by assumption) _ _ _ _ _ | exact LimG.bS (by assumption) _ _ _ | exact LimG.bC (by assumption) _ _ _); (case Z_33 => assumption); (case KB_33 => assumption); (case F_33 => k_asm); (case N_33 => k_asm); (case D_33 => assumption); (case mt_33 => k_mem); (case m5_33 => k_mem); (case ms_33 => k_mem); (case me_33 => k_mem); (case mv_33 => k_mem); (case U1_33 => k_updF); (case U2_33 => (intro xK; k_updF)); (case U3_33 => (intro xK yK; k_updF)); (case U4_33 => (intro xK yK zK; k_updF)); (case U5_33 => (intro xK yK zK uK; k_updF)); (case hl_33 => assumption); (case I_33 => assumption); (case hen_33 => assumption); (case hnow_33 => assumption); (case hc0_33 => walk_at "MINE om"); (case hc1_33 => walk_at "MINE om"); (case hcc_33 => assumption); (case hd_33 => walk_at "MINE room"); (case hk_33 => exact rfl); k_whole; intro h'K tk'K v'K O'K lg'K g2'K T'K F'K N'K B'K X'K P'K l'K D'K R'K; (try dsimp only [List.cons_append, List.nil_append] at N'K)))
  k_with "call ref" => (k_here; (with_reducible show wpAny _ _ (call (Value.ref 593) _) _ _ _); (refine' exp_use ?LK_34 ?Z_34 ?KB_34 ?F_34 ?N_34 ?mt_34 ?m5_34 ?ms_34 ?me_34 ?mv_34 ?U1_34 ?U2_34 ?U3_34 ?U4_34 ?U5_34 ?D_34 ?hnow_34 ?hcc_34 ?hd_34 ?_ ?hk_34; (case LK_34 => assumption); (case Z_34 => assumption); (case KB_34 => assumption); (case F_34 => k_asm); (case N_34 => k_asm); (case D_34 => assumption); (case mt_34 => k_mem); (case m5_34 => k_mem); (case ms_34 => k_mem); (case me_34 => k_mem); (case mv_34 => k_mem); (case U1_34 => k_updF); (case U2_34 => (intro xK; k_updF)); (case U3_34 => (intro xK yK; k_updF)); (case U4_34 => (intro xK yK zK; k_updF)); (case U5_34 => (intro xK yK zK uK; k_updF)); (case hnow_34 => assumption); (case hcc_34 => assumption); (case hd_34 => walk_at "MINE room"); (case hk_34 => exact rfl); k_whole; intro h'K tk'K O'K lg'K g2'K T'K F'K N'K B'K X'K P'K l'K D'K; (try dsimp only [List.cons_append, List.nil_append] at N'K)))
  k_with "eval Name" => (k_here; k_dflt (refine' nameX_L ?F_zn ?v_zn ?_ ?a_zn ?b_zn; (case F_zn => k_asm); (case a_zn => rfl); (case b_zn => rfl); (case v_zn => rfl); k_whole))
  trivial

theorem c_step (w : World) (hExp : ExpEvC (Mine.kmake.heap_1 w.params) PySem.Challenge.pw_jo0040_02 w) : StepC (Mine.kmake.heap_1 w.params) PySem.Challenge.pw_jo0040_02 w := by
  have hfill : (PySem.Challenge.rw_jo0040_02 = PySem.Challenge.rw_jo0040_02) ∧ (Mine.kmake.heap_1 = Mine.kmake.heap_1) := by k_fill; exact ⟨rfl, rfl⟩
  clear hfill
  intro p loose mean mg mb S now O A s base outer lims it tp key amount ex cost deed kind t1 t2 t3 σ c lg Q E P hLims I hkd LG hen hnow hc0 hc1 hcc hdeed hd ret
  obtain ⟨Z, KB, hs, he, hv, ht, ht5, D⟩ := id P
  obtain ⟨ok, o5, XB, TBp, C1, C2, IB, hlgb⟩ := id Z
  have TB := topRead_of TBp
  obtain ⟨n1, n2, n3, l1, l2, l3, b1⟩ := id ok
  obtain ⟨n4, n5⟩ := id o5
  obtain ⟨la, ln, hla, hlk⟩ := hLims
  have hlk := hlk kind hkd
  have hidx := la_idx (la := la) hkd
  have hk0 : 0 ≤ kind ∧ kind ≤ 2 := by walk_at "MINE om"
  have X : (Mine.kmake.heap_1 w.params).In (hideAll s.heap S.M) := XB.keeps KB.stays
  have T : TopRead p loose mg mb (hideAll s.heap S.M) := TB.keeps KB.stays
  have II : StI PySem.Challenge.pw_jo0040_02 w (hideAll s.heap S.M) S now := IB.keeps KB.stays
  have hroom' := hd.d
  have hh := hd.h
  have hu := hd.u
  refine wpAny_call ?_
  refine' enter (Wl := S.M) (news := five S O) (binds := [("limiters", .ref lims), ("store", .ref S.st), ("deed", .int deed t1), ("kind", .int kind t2), ("item", .ref it), ("names", .ref tp), ("cost", .int cost t3)]) X T P.own ?ho ?hcd ?hroom ?hbind ?hloc ?_ ?c2 ?c3 ?c4 ?c5
  walk_at "MINE enter"
  intro L' h₁ F N lt
  (try dsimp only [List.reverse, List.reverseAux] at F)
  clear hs he hv ht ht5 lt
  generalize hg : hideAll s.heap S.M = g at *
  have i1 := II.i1
  have i2 := II.i2
  have gla : g.get? lims = some _ := KB.stays _ _ hla
  (try k_fold)
  k_steps
  · (have t'K := trivial; have h'K := trivial; have o'K := trivial; have F'K := trivial; have N'K := trivial; have hd'K := trivial; have v'K := trivial; have tk'K := trivial; have oe'K := trivial; have yK := trivial; have hE'K := trivial; have hS'K := trivial; have xK := trivial; have os'K := trivial; have hy'K := trivial; have q'K := trivial; have l1K := trivial; have tp'K := trivial; have u2K := trivial; have u1K := trivial; have u3K := trivial; have u4K := trivial; have hV'K := trivial; have ov'K := trivial; have P'K := trivial; have X'K := trivial; have B'K := trivial; have O'K := trivial; have g2'K := trivial; have lg'K := trivial; have D'K := trivial; have uK := trivial; have l'K := trivial; have zK := trivial; have R'K := trivial; have T'K := trivial); rename_i hdd hA tkA vR OR lgR gR Ts Fs Ns Bs Xs Ps lsM Ds Rs
    have e1 : sStep deed kind σ now key amount ex cost = sTestK kind σ now key amount ex cost := by unfold sStep; rw [if_pos hdd]
    have e2 : vStep deed kind σ now key amount ex cost = .bool (rTestK kind σ now key amount ex cost) := by unfold vStep; rw [if_pos hdd]
    rw [e1, e2] at ret
    cases Rs
    (refine' ret _ _ _ _ _ (aft_of hg Ts Fs Ns ?mt ?m5 ?ms ?me ?mv (fun q hq => ⟨by simp [hq], lsM q hq⟩) (Ds.up hcc)); (case mt => k_mem); (case m5 => k_mem); (case ms => k_mem); (case me => k_mem); (case mv => k_mem))
  · (have t'K := trivial; have h'K := trivial; have o'K := trivial; have F'K := trivial; have N'K := trivial; have hd'K := trivial; have v'K := trivial; have tk'K := trivial; have oe'K := trivial; have yK := trivial; have hE'K := trivial; have hS'K := trivial; have xK := trivial; have os'K := trivial; have hy'K := trivial; have q'K := trivial; have l1K := trivial; have tp'K := trivial; have u2K := trivial; have u1K := trivial; have u3K := trivial; have u4K := trivial; have hV'K := trivial; have ov'K := trivial; have P'K := trivial; have X'K := trivial; have B'K := trivial; have O'K := trivial; have g2'K := trivial; have lg'K := trivial; have D'K := trivial; have uK := trivial; have l'K := trivial; have zK := trivial; have R'K := trivial; have T'K := trivial); rename_i hd0 tk0 hdd hA tkA vR OR lgR gR Ts Fs Ns Bs Xs Ps lsM Ds Rs
    have e1 : sStep deed kind σ now key amount ex cost = sClearK kind σ now key amount ex 0 := by unfold sStep; rw [if_neg hd0, if_pos hdd]
    have e2 : vStep deed kind σ now key amount ex cost = .none := by unfold vStep; rw [if_neg hd0, if_pos hdd]
    rw [e1, e2] at ret
    skip
    (refine' ret _ _ _ _ _ (aft_of hg Ts Fs Ns ?mt ?m5 ?ms ?me ?mv (fun q hq => ⟨by simp [hq], lsM q hq⟩) (Ds.up hcc)); (case mt => k_mem); (case m5 => k_mem); (case ms => k_mem); (case me => k_mem); (case mv => k_mem))
  · (have t'K := trivial; have h'K := trivial; have o'K := trivial; have F'K := trivial; have N'K := trivial; have hd'K := trivial; have v'K := trivial; have tk'K := trivial; have oe'K := trivial; have yK := trivial; have hE'K := trivial; have hS'K := trivial; have xK := trivial; have os'K := trivial; have hy'K := trivial; have q'K := trivial; have l1K := trivial; have tp'K := trivial; have u2K := trivial; have u1K := trivial; have u3K := trivial; have u4K := trivial; have hV'K := trivial; have ov'K := trivial; have P'K := trivial; have X'K := trivial; have B'K := trivial; have O'K := trivial; have g2'K := trivial; have lg'K := trivial; have D'K := trivial; have uK := trivial; have l'K := trivial; have zK := trivial; have R'K := trivial; have T'K := trivial); rename_i hd0 tk0 hd1 tk1 hdd hA tkA OR lgR gR Ts Fs Ns Bs Xs Ps lsM Ds
    have e1 : sStep deed kind σ now key amount ex cost = sSweep σ now := by unfold sStep; rw [if_neg hd0, if_neg hd1, if_pos hdd]
    have e2 : vStep deed kind σ now key amount ex cost = .none := by unfold vStep; rw [if_neg hd0, if_neg hd1, if_pos hdd]
    rw [e1, e2] at ret
    skip
    (refine' ret _ _ _ _ _ (aft_of hg Ts Fs Ns ?mt ?m5 ?ms ?me ?mv (fun q hq => ⟨by simp [hq], lsM q hq⟩) (Ds.up hcc)); (case mt => k_mem); (case m5 => k_mem); (case ms => k_mem); (case me => k_mem); (case mv => k_mem))
  · (have t'K := trivial; have h'K := trivial; have o'K := trivial; have F'K := trivial; have N'K := trivial; have hd'K := trivial; have v'K := trivial; have tk'K := trivial; have oe'K := trivial; have yK := trivial; have hE'K := trivial; have hS'K := trivial; have xK := trivial; have os'K := trivial; have hy'K := trivial; have q'K := trivial; have l1K := trivial; have tp'K := trivial; have u2K := trivial; have u1K := trivial; have u3K := trivial; have u4K := trivial; have hV'K := trivial; have ov'K := trivial; have P'K := trivial; have X'K := trivial; have B'K := trivial; have O'K := trivial; have g2'K := trivial; have lg'K := trivial; have D'K := trivial; have uK := trivial; have l'K := trivial; have zK := trivial; have R'K := trivial; have T'K := trivial); rename_i hd0 tk0 hd1 tk1 hdd hA tkA vR OR lgR gR Ts Fs Ns Bs Xs Ps lsM Ds Rs
    have e1 : sStep deed kind σ now key amount ex cost = sHitK kind σ now key amount ex cost := by unfold sStep; rw [if_neg hd0, if_neg hd1, if_neg hdd]
    have e2 : vStep deed kind σ now key amount ex cost = .bool (rHitK kind σ now key amount ex cost) := by unfold vStep; rw [if_neg hd0, if_neg hd1, if_neg hdd]
    rw [e1, e2] at ret
    cases Rs
    (refine' ret _ _ _ _ _ (aft_of hg Ts Fs Ns ?mt ?m5 ?ms ?me ?mv (fun q hq => ⟨by simp [hq], lsM q hq⟩) Ds); (case mt => k_mem); (case m5 => k_mem); (case ms => k_mem); (case me => k_mem); (case mv => k_mem))

theorem reg_CLt : True := by
  k_with_none
  k_with "MINE pj" => (first | with_reducible assumption | exact an0 (by with_reducible assumption) | exact an1 (by with_reducible assumption) | exact an2 (by with_reducible assumption) | exact an3 (by with_reducible assumption) | exact an4 (by with_reducible assumption) | exact an5 (by with_reducible assumption) | exact an6 (by with_reducible assumption) | exact an7 (by with_reducible assumption) | exact an8 (by with_reducible assumption) | exact an9 (by with_reducible assumption) | exact bn1 (by with_reducible assumption) | exact bn2 (by with_reducible assumption) | exact bn3 (by with_reducible assumption) | exact bn4 (by with_reducible assumption) | exact bn5 (by with_reducible assumption) | exact bn6 (by with_reducible assumption) | exact bn7 (by with_reducible assumption) | exact bn8 (by with_reducible assumption))
  k_with "MINE lt" => (first | walk_at "MINE pj" | (with_reducible refine Nat.lt_trans ?_ (by with_reducible assumption); walk_at "MINE lt"))
  k_with "MINE ne" => (with_reducible refine neN ?_; (try dsimp only); first | with_reducible assumption | (refine Ne.symm ?_; with_reducible assumption) | (refine Nat.ne_of_lt ?_; with_reducible assumption) | (refine Nat.ne_of_gt ?_; with_reducible assumption) | (simp only [*, ne_eq, not_false_eq_true]; done) | (refine Ne.symm ?_; (simp only [*, ne_eq, not_false_eq_true]; done)) | (refine Nat.ne_of_lt ?_; (simp only [*]; done)) | (refine Nat.ne_of_gt ?_; (simp only [*]; done)) | assumption | decide | (refine Nat.ne_of_gt ?_; walk_at "MINE lt") | (refine Nat.ne_of_lt ?_; walk_at "MINE lt") | lia | omega)
  k_with "MINE nes" => (repeat' (first | (refine And.intro ?_ ?_) | (with_reducible refine neN ?_; walk_at "MINE ne")))
  k_with "MINE om" => (first | with_reducible assumption | exact Nat.le_of_ble_eq_true rfl | exact an0 (by with_reducible assumption) | exact bn1 (by with_reducible assumption) | exact an1 (by with_reducible assumption) | exact Nat.lt_of_le_of_lt (Nat.le_add_right _ _) (by with_reducible assumption) | exact Int.lt_trans (by with_reducible assumption) (by decide) | exact Int.lt_trans (bn1 (by with_reducible assumption)) (by decide) | exact Int.lt_of_lt_of_le (by decide) (by with_reducible assumption) | exact Int.lt_of_lt_of_le (by decide) (an0 (by with_reducible assumption)) | exact Nat.le_trans (by with_reducible assumption) (by decide) | exact Int.le_of_lt (by with_reducible assumption) | exact Int.le_trans (by with_reducible assumption) (by decide) | exact Int.lt_of_le_of_lt (by with_reducible assumption) (by decide) | decide | (walk_at "MINE nes"; done) | lia | omega)
  k_with "getMethod ref" => (k_here; k_dflt (refine' dMethI ?N_0 ?m_0 ?d_0 ?i_0 ?_; (case N_0 => k_asm); (case m_0 => k_mem); (case d_0 => k_asm); (case i_0 => exact rfl); k_whole))
  k_with "call builtin:dict.get" => (k_here; k_dflt (refine' dGetI ?N_1 ?m_1 ?d_1 ?lo_1 ?_; (case N_1 => k_asm); (case m_1 => k_mem); (case d_1 => k_asm); (case lo_1 => k_asm); k_whole; intro t'K))
  k_with "call builtin:dict.pop" => (k_here; k_dflt (refine' dPopI ?F_2 ?N_2 ?U_2 ?d_2 ?lo_2 ?z_2 ?_; (case F_2 => k_asm); (case N_2 => k_asm); (case U_2 => k_updF); (case d_2 => k_asm); (case lo_2 => k_asm); (case z_2 => walk_at "MINE om"); k_whole; intro h'K o'K v'K F'K N'K hd'K; (try dsimp only at N'K); (try k_sweep)))
  k_with "getMethod ref" => (k_here; k_dflt (refine' dMethV ?N_3 ?m_3 ?d_3 ?i_3 ?_; (case N_3 => k_asm); (case m_3 => k_mem); (case d_3 => k_asm); (case i_3 => exact rfl); k_whole))
  k_with "call builtin:dict.pop" => (k_here; k_dflt (refine' dPopV ?F_4 ?N_4 ?U_4 ?d_4 ?lo_4 ?z_4 ?_; (case F_4 => k_asm); (case N_4 => k_asm); (case U_4 => k_updF); (case d_4 => k_asm); (case lo_4 => k_asm); (case z_4 => walk_at "MINE om"); k_whole; intro h'K o'K v'K F'K N'K hd'K; (try dsimp only at N'K); (try k_sweep)))
  k_with "setItem ref str" => (k_here; k_dflt (refine' dSetI ?F_5 ?N_5 ?U_5 ?d_5 ?z_5 ?_; (case F_5 => k_asm); (case N_5 => k_asm); (case U_5 => k_updF); (case d_5 => k_asm); (case z_5 => walk_at "MINE om"); k_whole; intro h'K o'K F'K N'K hd'K; (try dsimp only at N'K); (try k_sweep)))
  k_with "subscriptTail" => (k_here; (with_reducible show wpAny _ _ (subscriptTail _ _ (Value.ref _) (Value.str _ _)) _ _ _); k_dflt (refine' dTailI ?N_6 ?m_6 ?d_6 ?_; (case N_6 => k_asm); (case m_6 => k_mem); (case d_6 => k_asm); k_whole))
  k_with "getItem ref str" => (k_here; k_dflt (refine' dItemI ?N_7 ?m_7 ?d_7 ?v_7 ?_; (case N_7 => k_asm); (case m_7 => k_mem); (case d_7 => k_asm); (case v_7 => first | k_asm | exact if_pos rfl); k_whole; intro t'K))
  k_with "getAttr ref" => (k_here; k_dflt (refine' getOwnG ?k1_8 ?k2_8 ?i1_8 ?i2_8 ?k4_8 ?k5_8 ?k6_8 ?k7_8 ?k8_8 ?k9_8 ?_; (case k1_8 => k_asm); (case k2_8 => k_asm); (case i1_8 => k_asm); (case i2_8 => k_asm); (case k4_8 => k_is); (case k5_8 => k_is); (case k6_8 => k_is); (case k7_8 => k_is); (case k8_8 => k_get); (case k9_8 => k_handed); k_whole))
  k_with "getMethod ref" => (k_here; k_dflt (refine' methG ?k1_9 ?k2_9 ?i1_9 ?i2_9 ?k4_9 ?k5_9 ?k6_9 ?k7_9 ?_; (case k1_9 => k_asm); (case k2_9 => k_asm); (case i1_9 => k_asm); (case i2_9 => k_asm); (case k4_9 => k_is); (case k5_9 => k_is); (case k6_9 => k_is); (case k7_9 => k_get); k_whole))
  k_with "getMethod ref" => (k_here; k_dflt (refine' kmuOwnG ?k1_10 ?k2_10 ?i1_10 ?i2_10 ?k4_10 ?k5_10 ?_; (case k1_10 => k_asm); (case k2_10 => k_asm); (case i1_10 => k_asm); (case i2_10 => k_asm); (case k4_10 => k_is); (case k5_10 => k_is); k_whole))
  k_with "callWith ref" => (k_here; (with_reducible show wpAny _ _ (callWith _ (Value.ref _) [] (backTo _ (starEach [] _)) []) _ _ _); k_dflt (refine' callFn0 ?k1_11 ?k2_11 ?_; (case k1_11 => k_asm); (case k2_11 => k_asm); k_whole))
  k_with "callWith ref" => (k_here; (with_reducible show wpAny _ _ (callWith _ (Value.ref _) _ (backTo _ (starEach (_ :: _) _)) []) _ _ _); k_dflt (first | (refine' callWith_K ?k1_12 ?k2_12 ?_; (case k1_12 => k_asm); (case k2_12 => k_is); k_whole) | (refine' callWith_M ?k1_12 ?k2_12 ?k3_12 ?k4_12 ?_; (case k1_12 => k_asm); (case k2_12 => k_asm); (case k3_12 => k_mem); (case k4_12 => k_is); k_whole)))
  k_with "MINE room" => (first | assumption | exact ArOk.down (by assumption) (by walk_at "MINE om"))
  k_with "call ref" => (k_here; k_dflt (refine' clk_use ?C_14 ?F_14 ?N_14 ?d_14 ?_; (case C_14 => k_asm); (case F_14 => k_asm); (case N_14 => k_asm); (case d_14 => walk_at "MINE room"); k_whole; intro h'K tk'K t'K F'K N'K; (try k_sweep)))
  k_with "call ref" => (k_here; (with_reducible show wpAny _ _ (call (Value.ref 616) _) _ _ _); k_dflt (refine' get_use ?C_15 ?ok_15 ?F_15 ?N_15 ?ms_15 ?me_15 ?mv_15 ?U1_15 ?U2_15 ?U3_15 ?X_15 ?T_15 ?I_15 ?hS_15 ?hE_15 ?hc_15 ?hd_15 ?_; (case C_15 => k_asm); (case ok_15 => k_asm); (case F_15 => k_asm); (case N_15 => k_asm); (case ms_15 => k_mem); (case me_15 => k_mem); (case mv_15 => k_mem); (case U1_15 => k_updF); (case U2_15 => (intro xK; k_updF)); (case U3_15 => (intro xK yK; k_updF)); (case X_15 => k_asm); (case T_15 => k_asm); (case I_15 => k_asm); (case hS_15 => k_asm); (case hE_15 => k_asm); (case hc_15 => walk_at "MINE om"); (case hd_15 => walk_at "MINE room"); k_whole; intro h'K tk'K t'K os'K oe'K F'K N'K hS'K hE'K; (try dsimp only at N'K); (try k_sweep)))
  k_with "MINE enter" => (
  (case ho => k_is); (case hcd => k_is); (case hroom => walk_at "MINE om"); (case hbind => first | exact BindsTo.of_eq rfl | exact binds_K (by k_in) rfl (by k_is) rfl rfl rfl);
  (case c5 => decide); (case hloc => exact locs rfl); (case c2 => exact rfl); (case c3 => exact rfl); (case c4 => exact rfl))
  k_with "MINE exit" => ((case F => k_asm); (case N => k_asm); (case a => k_mem); (case b => k_mem); (case c => k_mem))
  k_with "formatField int" => (k_here; (with_reducible show wpAny _ _ (formatField (Value.int _ _) _) _ _ _); k_dflt (refine' fmtI ?a_18 ?b_18 ?_; (case a_18 => walk_at "MINE om"); (case b_18 => walk_at "MINE om"); k_whole; intro hy'K t'K))
  k_with "And" => ((with_reducible show PySem.Str.length (_ ++ _) ≤ sizeLine ∧ wpAny _ _ (joinParts _ _) _ _ _); refine ⟨?a_19, ?_⟩; (case a_19 => (simp only [Str.length_append, Str.empty_append, slk_one, sizeLine_eq]; walk_at "MINE om")))
  k_with "getMethod ref" => (k_here; k_dflt (refine' kmuCmG ?k1_20 ?k2_20 ?k3_20 ?i1_20 ?i2_20 ?k5_20 ?k6_20 ?k7_20 ?k8_20 ?k9_20 ?k10_20 ?k11_20 ?k12_20 ?k13_20 ?_; (case k1_20 => k_asm); (case k2_20 => k_asm); (case k3_20 => k_asm); (case i1_20 => k_asm); (case i2_20 => k_asm); (case k5_20 => k_is); (case k6_20 => k_is); (case k7_20 => k_is); (case k8_20 => k_is); (case k9_20 => k_is); (case k10_20 => k_is); (case k11_20 => decide +kernel); (case k12_20 => k_get); (case k13_20 => k_is); k_whole; intro q'K h'K F'K N'K l1K; (try k_lt l1K); (try k_sweep)))
  k_with "call ref" => (k_here; k_dflt (refine' keys_use ?C_21 ?F_21 ?N_21 ?q_21 ?X_21 ?T_21 ?h0_21 ?h1_21 ?h2_21 ?hk_21 ?hd_21 ?_; (case C_21 => k_asm); (case F_21 => k_asm); (case N_21 => k_asm); (case q_21 => k_mem); (case X_21 => k_asm); (case T_21 => k_asm); (case h0_21 => walk_at "MINE om"); (case h1_21 => walk_at "MINE om"); (case h2_21 => walk_at "MINE om"); (case hk_21 => assumption); (case hd_21 => walk_at "MINE room"); k_whole; intro h'K tk'K tp'K u1K u2K F'K N'K l1K; (try simp only [List.forall_mem_cons, List.not_mem_nil, false_implies, implies_true, and_true] at l1K); (try k_sweep)))
  k_with "call ref" => (k_here; (with_reducible show wpAny _ _ (call (Value.ref 660) _) _ _ _); k_dflt (refine' info_use ?C_22 ?ok_22 ?F_22 ?N_22 ?ms_22 ?me_22 ?mv_22 ?U1_22 ?U2_22 ?U3_22 ?X_22 ?T_22 ?I_22 ?hV_22 ?hS_22 ?hE_22 ?hc_22 ?h0_22 ?hd_22 ?_; (case C_22 => k_asm); (case ok_22 => k_asm); (case F_22 => k_asm); (case N_22 => k_asm); (case ms_22 => k_mem); (case me_22 => k_mem); (case mv_22 => k_mem); (case U1_22 => k_updF); (case U2_22 => (intro xK; k_updF)); (case U3_22 => (intro xK yK; k_updF)); (case X_22 => k_asm); (case T_22 => k_asm); (case I_22 => k_asm); (case hV_22 => k_asm); (case hS_22 => k_asm); (case hE_22 => k_asm); (case hc_22 => walk_at "MINE om"); (case h0_22 => walk_at "MINE om"); (case hd_22 => walk_at "MINE room"); k_whole; intro h'K tk'K os'K oe'K tp'K u1K u2K u3K u4K F'K N'K l1K hS'K hE'K; (try simp only [List.forall_mem_cons, List.not_mem_nil, false_implies, implies_true, and_true] at l1K); (try dsimp only at N'K); (try k_sweep)))
  k_with "call ref" => (k_here; (with_reducible show wpAny _ _ (call (Value.ref 601) _ _) _ _ _); k_dflt (refine' incr_use ?C_23 ?ok_23 ?F_23 ?N_23 ?ms_23 ?me_23 ?mv_23 ?U1_23 ?U2_23 ?U3_23 ?X_23 ?T_23 ?I_23 ?hS_23 ?hE_23 ?hc_23 ?hd_23 ?_; (case C_23 => k_asm); (case ok_23 => k_asm); (case F_23 => k_asm); (case N_23 => k_asm); (case ms_23 => k_mem); (case me_23 => k_mem); (case mv_23 => k_mem); (case U1_23 => k_updF); (case U2_23 => (intro xK; k_updF)); (case U3_23 => (intro xK yK; k_updF)); (case X_23 => k_asm); (case T_23 => k_asm); (case I_23 => k_asm); (case hS_23 => k_asm); (case hE_23 => k_asm); (case hc_23 => walk_at "MINE om"); (case hd_23 => walk_at "MINE room"); k_whole; intro h'K tk'K t'K os'K oe'K F'K N'K hS'K hE'K; (try dsimp only at N'K); (try k_sweep)))
  k_with "call ref" => (k_here; (with_reducible show wpAny _ _ (call (Value.ref 623) _) _ _ _); k_dflt (refine' clear_use ?C_24 ?ok_24 ?F_24 ?N_24 ?ms_24 ?me_24 ?mv_24 ?U1_24 ?U2_24 ?U3_24 ?X_24 ?T_24 ?I_24 ?hS_24 ?hE_24 ?hV_24 ?hc_24 ?hd_24 ?_; (case C_24 => k_asm); (case ok_24 => k_asm); (case F_24 => k_asm); (case N_24 => k_asm); (case ms_24 => k_mem); (case me_24 => k_mem); (case mv_24 => k_mem); (case U1_24 => k_updF); (case U2_24 => (intro xK; k_updF)); (case U3_24 => (intro xK yK; k_updF)); (case X_24 => k_asm); (case T_24 => k_asm); (case I_24 => k_asm); (case hS_24 => k_asm); (case hE_24 => k_asm); (case hV_24 => k_asm); (case hc_24 => walk_at "MINE om"); (case hd_24 => walk_at "MINE room"); k_whole; intro h'K tk'K os'K oe'K ov'K F'K N'K hS'K hE'K hV'K; (try dsimp only at N'K); (try k_sweep)))
  k_with "assign Tuple" => (k_here; (with_reducible show wpAny _ _ (assign (Expr.Tuple _ _ _) _ (Value.ref _)) _ _ _); k_dflt (refine' unpackN_ ?k1_25 ?k2_25 ?k3_25 ?k4_25 ?k5_25 ?k6_25 ?_; (case k1_25 => k_asm); (case k2_25 => k_asm); (case k3_25 => kun_tup); (case k4_25 => assumption); (case k5_25 => exact rfl); (case k6_25 => exact rfl); k_whole); intro h'K F'K N'K; (try k_sweep))
  k_with "binaryOp Mult int int" => (k_here; (first | refine PySem.mul_int ?_ (hm := IntMulOk.of_left (intBits_le_64 (by walk_at "MINE om") (by walk_at "MINE om"))) | refine PySem.mul_int ?_ (hm := IntMulOk.of_right (intBits_le_64 (by walk_at "MINE om") (by walk_at "MINE om")))))
  k_with "MINE get" => first | (refine' Fr.keep ?fr_27 _ _ ?gt_27; (case fr_27 => k_asm); (case gt_27 => assumption)) | (refine' Fr.keep ?fr_27 _ _ (Below.stays ?kb_27 _ _ ?bt_27); (case fr_27 => k_asm); (case kb_27 => assumption); (case bt_27 => assumption)) | (refine' news_at ?nn_27 ?mm_27; (case nn_27 => k_asm); (case mm_27 => k_mem))
  k_with "subscriptTail" => (k_here; (with_reducible show wpAny _ _ (subscriptTail _ _ (Value.ref _) (Value.int _ _)) _ _ _); k_dflt (refine' lst_in ?l_28 ?a_28 ?b_28 ?v_28 ?_; (case l_28 => walk_at "MINE get"); (case a_28 => walk_at "MINE om"); (case b_28 => walk_at "MINE om"); (case v_28 => assumption); k_whole))
  k_with "MINE stays" => first | exact Below.stays (by assumption) | assumption
  k_with "getMethod ref" => (k_here; (refine' lim_meth ?M_30 ?F_30 ?X_30 ?B_30 ?I_30 ?_; (case M_30 => first | assumption | exact LimG.mT (by assumption) | exact LimG.mH (by assumption) | exact LimG.mS (by assumption) | exact LimG.mC (by assumption)); (case F_30 => k_asm); (case X_30 => k_asm); (case B_30 => walk_at "MINE stays"); (case I_30 => assumption); k_whole))
  k_with "callWith ref" => (k_here; (refine' callWith_KW ?k1_31 ?k2_31 ?k3_31 ?_; (case k1_31 => k_asm); (case k2_31 => first | exact (LimG.mT (by assumption)).k | exact (LimG.mH (by assumption)).k); (case k3_31 => exact rfl); k_whole))
  k_with "callWith ref" => (k_here; (refine' callWith_K ?k1_32 ?k2_32 ?_; (case k1_32 => k_asm); (case k2_32 => first | exact (LimG.mC (by assumption)).k | exact (LimG.mS (by assumption)).k | exact (LimG.mT (by assumption)).k); k_whole))
  k_with "call ref" => (k_here; (refine' lim_use ?LK_33 ?Z_33 ?KB_33 ?F_33 ?N_33 ?mt_33 ?m5_33 ?ms_33 ?me_33 ?mv_33 ?U1_33 ?U2_33 ?U3_33 ?U4_33 ?U5_33 ?D_33 ?hl_33 ?I_33 ?hen_33 ?hnow_33 ?hc0_33 ?hc1_33 ?hcc_33 ?hb_33 ?hd_33 ?_ ?hk_33; (case LK_33 => first | exact LimG.test (by assumption) | exact LimG.hit (by assumption) | exact LimG.stats (by assumption) | exact LimG.clear (by assumption)); (case hb_33 => first | exact LimG.bT (by assumption) _ _ _ _ _ | exact LimG.bH (by assumption) _ _ _ _ _ | exact LimG.bS (by assumption) _ _ _ | exact LimG.bC (by assumption) _ _ _); (case Z_33 => assumption); (case KB_33 => assumption); (case F_33 => k_asm); (case N_33 => k_asm); (case D_33 => assumption); (case mt_33 => k_mem); (case m5_33 => k_mem); (case ms_33 => k_mem); (case me_33 => k_mem); (case mv_33 => k_mem); (case U1_33 => k_updF); (case U2_33 => (intro xK; k_updF)); (case U3_33 => (intro xK yK; k_updF)); (case U4_33 => (intro xK yK zK; k_updF)); (case U5_33 => (intro xK yK zK uK; k_updF)); (case hl_33 => assumption); (case I_33 => assumption); (case hen_33 => assumption); (case hnow_33 => assumption); (case hc0_33 => walk_at "MINE om"); (case hc1_33 => walk_at "MINE om"); (case hcc_33 => assumption); (case hd_33 => walk_at "MINE room"); (case hk_33 => exact rfl); k_whole; intro h'K tk'K v'K O'K lg'K g2'K T'K F'K N'K B'K X'K P'K l'K D'K R'K; (try dsimp only [List.cons_append, List.nil_append] at N'K)))
  k_with "call ref" => (k_here; (with_reducible show wpAny _ _ (call (Value.ref 593) _) _ _ _); (refine' exp_use ?LK_34 ?Z_34 ?KB_34 ?F_34 ?N_34 ?mt_34 ?m5_34 ?ms_34 ?me_34 ?mv_34 ?U1_34 ?U2_34 ?U3_34 ?U4_34 ?U5_34 ?D_34 ?hnow_34 ?hcc_34 ?hd_34 ?_ ?hk_34; (case LK_34 => assumption); (case Z_34 => assumption); (case KB_34 => assumption); (case F_34 => k_asm); (case N_34 => k_asm); (case D_34 => assumption); (case mt_34 => k_mem); (case m5_34 => k_mem); (case ms_34 => k_mem); (case me_34 => k_mem); (case mv_34 => k_mem); (case U1_34 => k_updF); (case U2_34 => (intro xK; k_updF)); (case U3_34 => (intro xK yK; k_updF)); (case U4_34 => (intro xK yK zK; k_updF)); (case U5_34 => (intro xK yK zK uK; k_updF)); (case hnow_34 => assumption); (case hcc_34 => assumption); (case hd_34 => walk_at "MINE room"); (case hk_34 => exact rfl); k_whole; intro h'K tk'K O'K lg'K g2'K T'K F'K N'K B'K X'K P'K l'K D'K; (try dsimp only [List.cons_append, List.nil_append] at N'K)))
  k_with "call ref" => (k_here; (with_reducible show wpAny _ _ (call (Value.ref (fStats _)) _) _ _ _); (refine' stats_use ?LG_35 ?tw_35 ?Z_35 ?KB_35 ?F_35 ?N_35 ?mt_35 ?m5_35 ?ms_35 ?me_35 ?mv_35 ?U1_35 ?U2_35 ?U3_35 ?U4_35 ?U5_35 ?D_35 ?hl_35 ?I_35 ?hen_35 ?hnow_35 ?hcc_35 ?hd_35 ?_ ?hk_35; (case LG_35 => assumption); (case tw_35 => assumption); (case Z_35 => assumption); (case KB_35 => assumption); (case F_35 => k_asm); (case N_35 => k_asm); (case D_35 => assumption); (case mt_35 => k_mem); (case m5_35 => k_mem); (case ms_35 => k_mem); (case me_35 => k_mem); (case mv_35 => k_mem); (case U1_35 => k_updF); (case U2_35 => (intro xK; k_updF)); (case U3_35 => (intro xK yK; k_updF)); (case U4_35 => (intro xK yK zK; k_updF)); (case U5_35 => (intro xK yK zK uK; k_updF)); (case hl_35 => assumption); (case I_35 => assumption); (case hen_35 => assumption); (case hnow_35 => assumption); (case hcc_35 => assumption); (case hd_35 => walk_at "MINE room"); (case hk_35 => exact rfl); k_whole; refine Hold.out ?_))
  k_with "getAttr ref" => (k_here; (refine' get_tgW ?C_36 ?F_36 ?N_36 ?X_36 ?T_36 ?x_36 ?dx_36 ?a_36 ?ga_36 ?gk_36 ?h2_36 ?c_36 ?n_36 ?t_36 ?R_36 ?d_36 ?_; (case F_36 => k_asm); (case N_36 => k_asm); (case X_36 => k_asm); (case T_36 => k_asm); (case x_36 => k_mem); (case dx_36 => k_mem); (case a_36 => k_is); (case C_36 => assumption); (case ga_36 => k_is); (case gk_36 => k_is); (case h2_36 => k_is); (case c_36 => k_is); (case n_36 => k_is); (case t_36 => k_is); (case R_36 => exact rfl); (case d_36 => walk_at "MINE room"); k_whole; intro h'K tk'K F'K N'K; (try k_sweep)))
  k_with "eval Name" => (k_here; k_dflt (refine' nameX_L ?F_zn ?v_zn ?_ ?a_zn ?b_zn; (case F_zn => k_asm); (case a_zn => rfl); (case b_zn => rfl); (case v_zn => rfl); k_whole))
  trivial

theorem c_lstats (w : World) (hT1 : TgW (Mine.kmake.heap_1 w.params) PySem.Challenge.pw_jo0040_02 w 124 (fun a b => a)) (hT2 : TgW (Mine.kmake.heap_1 w.params) PySem.Challenge.pw_jo0040_02 w 127 (fun a b => b)) : StatsC (Mine.kmake.heap_1 w.params) PySem.Challenge.pw_jo0040_02 w := by
  have hfill : (PySem.Challenge.rw_jo0040_02 = PySem.Challenge.rw_jo0040_02) ∧ (Mine.kmake.heap_1 = Mine.kmake.heap_1) := by k_fill; exact ⟨rfl, rfl⟩
  clear hfill
  intro p loose mean mg mb S now O A s base outer lims it tp key amount ex kind t2 σ c lg Q E P hLims I hkd LG hen hnow hcc hd ret
  obtain ⟨Z, KB, hs, he, hv, ht, ht5, D⟩ := id P
  obtain ⟨ok, o5, XB, TBp, C1, C2, IB, hlgb⟩ := id Z
  have TB := topRead_of TBp
  obtain ⟨n1, n2, n3, l1, l2, l3, b1⟩ := id ok
  obtain ⟨n4, n5⟩ := id o5
  obtain ⟨la, ln, hla, hlk⟩ := hLims
  have hlk := hlk kind hkd
  have hidx := la_idx (la := la) hkd
  have hk0 : 0 ≤ kind ∧ kind ≤ 2 := by walk_at "MINE om"
  have X : (Mine.kmake.heap_1 w.params).In (hideAll s.heap S.M) := XB.keeps KB.stays
  have T : TopRead p loose mg mb (hideAll s.heap S.M) := TB.keeps KB.stays
  have hroom' := hd.d
  have hh := hd.h
  have hu := hd.u
  refine wpAny_call ?_
  refine' enter (Wl := S.M) (news := five S O) (binds := [("limiters", .ref lims), ("kind", .int kind t2), ("item", .ref it), ("names", .ref tp)]) X T P.own ?ho ?hcd ?hroom ?hbind ?hloc ?_ ?c2 ?c3 ?c4 ?c5
  walk_at "MINE enter"
  intro L' h₁ F N lt
  (try dsimp only [List.reverse, List.reverseAux] at F)
  clear hs he hv ht ht5 lt
  generalize hg : hideAll s.heap S.M = g at *
  have gla : g.get? lims = some _ := KB.stays _ _ hla
  (try k_fold)
  by_cases h2 : kind = 2
  · have htwo : twoK kind = true := by rw [h2]; rfl
    k_steps
    refine ⟨?_⟩
    intro h' tk' x dx av t O' lg' g₂ add T₂ F₂ N₂ B₂ X₂ P₂ l₂ D₂ ne₁ ne₂ r
    rw [if_pos rfl] at r
    obtain ⟨tr, u1, u2, rfl, rfl⟩ := r
    simp only [List.cons_append, List.nil_append, List.forall_mem_cons, List.not_mem_nil, false_implies, implies_true, and_true] at N₂ ne₁ ne₂
    k_steps
    · (refine' ret _ _ _ _ _ _ _ _ _ _ (aft_of hg T₂ ?F ?N ?mt ?m5 ?ms ?me ?mv ?hl D₂) (news_at ?N2 (List.Mem.head _)) (news_at ?N3 ?m3) (gone_turn hg T₂ ?N4 (List.Mem.head _) (not_M ?q1)) (gone_turn hg T₂ ?N5 ?m6 (not_M ?q2)); (case F => k_asm); (case N => k_asm); (case hl => exact fun q hq => ⟨by simp [hq], l₂ q hq⟩); (case mt => k_mem); (case m5 => k_mem); (case ms => k_mem); (case me => k_mem); (case mv => k_mem); (case N2 => k_asm); (case N3 => k_asm); (case m3 => k_mem); (case N4 => k_asm); (case q1 => walk_at "MINE om"); (case N5 => k_asm); (case m6 => k_mem); (case q2 => walk_at "MINE om"))
    · exact absurd h2 (by assumption)
  · obtain ⟨htwo, hden⟩ := twoK_no (kind := kind) (by walk_at "MINE om")
    simp only [hden] at ret
    k_steps
    refine ⟨?_⟩
    intro h' tk' x dx av t O' lg' g₂ add T₂ F₂ N₂ B₂ X₂ P₂ l₂ D₂ ne₁ ne₂ r
    rw [if_neg (by decide)] at r
    obtain ⟨rfl, u, rfl⟩ := r
    simp only [List.cons_append, List.nil_append, List.forall_mem_cons, List.not_mem_nil, false_implies, implies_true, and_true] at N₂ ne₁ ne₂
    k_steps
    · exact absurd (by assumption) h2
    · (refine' ret _ _ _ _ _ _ _ _ _ _ (aft_of hg T₂ ?F ?N ?mt ?m5 ?ms ?me ?mv ?hl D₂) (news_at ?N2 (List.Mem.head _)) (news_at ?N3 ?m3) (gone_turn hg T₂ ?N4 (List.Mem.head _) (not_M ?q1)) (gone_turn hg T₂ ?N5 ?m6 (not_M ?q2)); (case F => k_asm); (case N => k_asm); (case hl => exact fun q hq => ⟨by simp [hq], l₂ q hq⟩); (case mt => k_mem); (case m5 => k_mem); (case ms => k_mem); (case me => k_mem); (case mv => k_mem); (case N2 => k_asm); (case N3 => k_asm); (case m3 => k_mem); (case N4 => k_asm); (case q1 => walk_at "MINE om"); (case N5 => k_asm); (case m6 => k_mem); (case q2 => walk_at "MINE om"))

theorem reg_CSn : True := by
  k_with_none
  k_with "MINE pj" => (first | with_reducible assumption | exact an0 (by with_reducible assumption) | exact an1 (by with_reducible assumption) | exact an2 (by with_reducible assumption) | exact an3 (by with_reducible assumption) | exact an4 (by with_reducible assumption) | exact an5 (by with_reducible assumption) | exact an6 (by with_reducible assumption) | exact an7 (by with_reducible assumption) | exact an8 (by with_reducible assumption) | exact an9 (by with_reducible assumption) | exact bn1 (by with_reducible assumption) | exact bn2 (by with_reducible assumption) | exact bn3 (by with_reducible assumption) | exact bn4 (by with_reducible assumption) | exact bn5 (by with_reducible assumption) | exact bn6 (by with_reducible assumption) | exact bn7 (by with_reducible assumption) | exact bn8 (by with_reducible assumption))
  k_with "MINE lt" => (first | walk_at "MINE pj" | (with_reducible refine Nat.lt_trans ?_ (by with_reducible assumption); walk_at "MINE lt"))
  k_with "MINE ne" => (with_reducible refine neN ?_; (try dsimp only); first | with_reducible assumption | (refine Ne.symm ?_; with_reducible assumption) | (refine Nat.ne_of_lt ?_; with_reducible assumption) | (refine Nat.ne_of_gt ?_; with_reducible assumption) | (simp only [*, ne_eq, not_false_eq_true]; done) | (refine Ne.symm ?_; (simp only [*, ne_eq, not_false_eq_true]; done)) | (refine Nat.ne_of_lt ?_; (simp only [*]; done)) | (refine Nat.ne_of_gt ?_; (simp only [*]; done)) | assumption | decide | (refine Nat.ne_of_gt ?_; walk_at "MINE lt") | (refine Nat.ne_of_lt ?_; walk_at "MINE lt") | lia | omega)
  k_with "MINE nes" => (repeat' (first | (refine And.intro ?_ ?_) | (with_reducible refine neN ?_; walk_at "MINE ne")))
  k_with "MINE om" => (first | with_reducible assumption | exact Nat.le_of_ble_eq_true rfl | exact an0 (by with_reducible assumption) | exact bn1 (by with_reducible assumption) | exact an1 (by with_reducible assumption) | exact Nat.lt_of_le_of_lt (Nat.le_add_right _ _) (by with_reducible assumption) | exact Int.lt_trans (by with_reducible assumption) (by decide) | exact Int.lt_trans (bn1 (by with_reducible assumption)) (by decide) | exact Int.lt_of_lt_of_le (by decide) (by with_reducible assumption) | exact Int.lt_of_lt_of_le (by decide) (an0 (by with_reducible assumption)) | exact Nat.le_trans (by with_reducible assumption) (by decide) | exact Int.le_of_lt (by with_reducible assumption) | exact Int.le_trans (by with_reducible assumption) (by decide) | exact Int.lt_of_le_of_lt (by with_reducible assumption) (by decide) | decide | (walk_at "MINE nes"; done) | lia | omega)
  k_with "MINE room" => (first | assumption | exact ArOk.down (by assumption) (by walk_at "MINE om"))
  k_with "call ref" => (k_here; (with_reducible show wpAny _ _ (call (Value.ref 700) _) _ _ _); (refine' next_use ?C_1 ?F_1 ?N_1 ?U_1 ?X_1 ?T_1 ?sc_1 ?hi_1 ?hn_1 ?k0_1 ?k1_1 ?m0_1 ?m1_1 ?d_1 ?_; (case C_1 => assumption); (case F_1 => k_asm); (case N_1 => k_asm); (case U_1 => k_updF); (case X_1 => k_asm); (case T_1 => k_asm); (case sc_1 => assumption); (case hi_1 => assumption); (case hn_1 => assumption); (case k0_1 => walk_at "MINE om"); (case k1_1 => walk_at "MINE om"); (case m0_1 => walk_at "MINE om"); (case m1_1 => walk_at "MINE om"); (case d_1 => exact ArOk.le (har_law _) (by decide)); k_whole; intro h'K tk'K r'K u1K u2K n'K F'K N'K r0K r1K; (try dsimp only at N'K)))
  k_with "exec For Name Call cons nil" => refine Hold.out ?_
  k_with "call ref" => (k_here; (with_reducible show wpAny _ _ (call (Value.ref 691) _) _ _ _); (refine' stnew_use ?C_3 ?F_3 ?N_3 ?X_3 ?T_3 ?d_3 ?_; (case C_3 => assumption); (case F_3 => k_asm); (case N_3 => k_asm); (case X_3 => k_asm); (case T_3 => k_asm); (case d_3 => exact ArOk.le (har_law _) (by decide)); k_whole; intro h'K tk'K x'K d'K ds'K de'K dv'K t1K t2K t3K t4K os'K oe'K ov'K F'K N'K e1K e2K e3K o1K o2K o3K l1K l2K l3K l4K l5K; (try k_lt l1K)))
  k_with "call ref" => (k_here; (refine' itnew_use ?C_4 ?ea_4 ?F_4 ?N_4 ?X_4 ?T_4 ?a0_4 ?a1_4 ?b0_4 ?b1_4 ?d_4 ?_; (case C_4 => assumption); (case ea_4 => exact rfl); (case F_4 => k_asm); (case N_4 => k_asm); (case X_4 => k_asm); (case T_4 => k_asm); (case a0_4 => walk_at "MINE om"); (case a1_4 => walk_at "MINE om"); (case b0_4 => walk_at "MINE om"); (case b1_4 => walk_at "MINE om"); (case d_4 => exact ArOk.le (har_law _) (by decide)); k_whole; intro h'K tk'K x'K d'K t1K t2K t3K t4K t5K t6K F'K N'K l1K l2K; (try k_lt l1K)))
  k_with "call ref" => (k_here; (refine' itnew_use (u3 := 0) ?C_5 ?ea_5 ?F_5 ?N_5 ?X_5 ?T_5 ?a0_5 ?a1_5 ?b0_5 ?b1_5 ?d_5 ?_; (case C_5 => assumption); (case ea_5 => exact rfl); (case F_5 => k_asm); (case N_5 => k_asm); (case X_5 => k_asm); (case T_5 => k_asm); (case a0_5 => walk_at "MINE om"); (case a1_5 => walk_at "MINE om"); (case b0_5 => walk_at "MINE om"); (case b1_5 => walk_at "MINE om"); (case d_5 => exact ArOk.le (har_law _) (by decide)); k_whole; intro h'K tk'K x'K d'K t1K t2K t3K t4K t5K t6K F'K N'K l1K l2K; (try k_lt l1K)))
  k_with "call ref" => (k_here; (with_reducible show wpAny _ _ (call (Value.ref 707) _) _ _ _); (refine' limsnew_use ?C_6 ?F_6 ?N_6 ?X_6 ?T_6 ?d_6 ?_; (case C_6 => assumption); (case F_6 => k_asm); (case N_6 => k_asm); (case X_6 => k_asm); (case T_6 => k_asm); (case d_6 => exact ArOk.le (har_law _) (by decide)); k_whole; intro h'K tk'K l'K a0K a1K a2K d0K d1K d2K t0K t1K t2K F'K N'K n1K; (try simp only [List.forall_mem_cons, List.not_mem_nil, false_implies, implies_true, and_true] at n1K)))
  k_with "MINE get" => first | (refine' Fr.keep ?fr_7 _ _ ?gt_7; (case fr_7 => k_asm); (case gt_7 => assumption)) | (refine' Fr.keep ?fr_7 _ _ (Below.stays ?kb_7 _ _ ?bt_7); (case fr_7 => k_asm); (case kb_7 => assumption); (case bt_7 => assumption)) | (refine' news_at ?nn_7 ?mm_7; (case nn_7 => k_asm); (case mm_7 => k_mem))
  k_with "subscriptTail" => (k_here; (with_reducible show wpAny _ _ (subscriptTail _ _ (Value.ref _) (Value.int _ _)) _ _ _); k_dflt (refine' lst_in ?l_8 ?a_8 ?b_8 ?v_8 ?_; (case l_8 => walk_at "MINE get"); (case a_8 => walk_at "MINE om"); (case b_8 => walk_at "MINE om"); (case v_8 => assumption); k_whole))
  k_with "MINE stays" => first | exact Below.stays (by assumption) | assumption
  k_with "getMethod ref" => (k_here; (refine' lim_meth ?M_10 ?F_10 ?X_10 ?B_10 ?I_10 ?_; (case M_10 => first | assumption | exact LimG.mT (by assumption) | exact LimG.mH (by assumption) | exact LimG.mS (by assumption) | exact LimG.mC (by assumption)); (case F_10 => k_asm); (case X_10 => k_asm); (case B_10 => walk_at "MINE stays"); (case I_10 => assumption); k_whole))
  k_with "callWith ref" => (k_here; (refine' callWith_KW ?k1_11 ?k2_11 ?k3_11 ?_; (case k1_11 => k_asm); (case k2_11 => first | exact (LimG.mT (by assumption)).k | exact (LimG.mH (by assumption)).k); (case k3_11 => exact rfl); k_whole))
  k_with "callWith ref" => (k_here; (refine' callWith_K ?k1_12 ?k2_12 ?_; (case k1_12 => k_asm); (case k2_12 => first | exact (LimG.mC (by assumption)).k | exact (LimG.mS (by assumption)).k | exact (LimG.mT (by assumption)).k); k_whole))
  k_with "call ref" => (k_here; (refine' lim_use ?LK_13 ?Z_13 ?KB_13 ?F_13 ?N_13 ?mt_13 ?m5_13 ?ms_13 ?me_13 ?mv_13 ?U1_13 ?U2_13 ?U3_13 ?U4_13 ?U5_13 ?D_13 ?hl_13 ?I_13 ?hen_13 ?hnow_13 ?hc0_13 ?hc1_13 ?hcc_13 ?hb_13 ?hd_13 ?_ ?hk_13; (case LK_13 => first | exact LimG.test (by assumption) | exact LimG.hit (by assumption) | exact LimG.stats (by assumption) | exact LimG.clear (by assumption)); (case hb_13 => first | exact LimG.bT (by assumption) _ _ _ _ _ | exact LimG.bH (by assumption) _ _ _ _ _ | exact LimG.bS (by assumption) _ _ _ | exact LimG.bC (by assumption) _ _ _); (case Z_13 => assumption); (case KB_13 => assumption); (case F_13 => k_asm); (case N_13 => k_asm); (case D_13 => assumption); (case mt_13 => k_mem); (case m5_13 => k_mem); (case ms_13 => k_mem); (case me_13 => k_mem); (case mv_13 => k_mem); (case U1_13 => k_updF); (case U2_13 => (intro xK; k_updF)); (case U3_13 => (intro xK yK; k_updF)); (case U4_13 => (intro xK yK zK; k_updF)); (case U5_13 => (intro xK yK zK uK; k_updF)); (case hl_13 => assumption); (case I_13 => assumption); (case hen_13 => assumption); (case hnow_13 => assumption); (case hc0_13 => walk_at "MINE om"); (case hc1_13 => walk_at "MINE om"); (case hcc_13 => assumption); (case hd_13 => walk_at "MINE room"); (case hk_13 => exact rfl); k_whole; intro h'K tk'K v'K O'K lg'K g2'K T'K F'K N'K B'K X'K P'K l'K D'K R'K; (try dsimp only [List.cons_append, List.nil_append] at N'K)))
  k_with "call ref" => (k_here; (with_reducible show wpAny _ _ (call (Value.ref 593) _) _ _ _); (refine' exp_use ?LK_14 ?Z_14 ?KB_14 ?F_14 ?N_14 ?mt_14 ?m5_14 ?ms_14 ?me_14 ?mv_14 ?U1_14 ?U2_14 ?U3_14 ?U4_14 ?U5_14 ?D_14 ?hnow_14 ?hcc_14 ?hd_14 ?_ ?hk_14; (case LK_14 => assumption); (case Z_14 => assumption); (case KB_14 => assumption); (case F_14 => k_asm); (case N_14 => k_asm); (case D_14 => assumption); (case mt_14 => k_mem); (case m5_14 => k_mem); (case ms_14 => k_mem); (case me_14 => k_mem); (case mv_14 => k_mem); (case U1_14 => k_updF); (case U2_14 => (intro xK; k_updF)); (case U3_14 => (intro xK yK; k_updF)); (case U4_14 => (intro xK yK zK; k_updF)); (case U5_14 => (intro xK yK zK uK; k_updF)); (case hnow_14 => assumption); (case hcc_14 => assumption); (case hd_14 => walk_at "MINE room"); (case hk_14 => exact rfl); k_whole; intro h'K tk'K O'K lg'K g2'K T'K F'K N'K B'K X'K P'K l'K D'K; (try dsimp only [List.cons_append, List.nil_append] at N'K)))
  k_with "call ref" => (k_here; (with_reducible show wpAny _ _ (call (Value.ref (fStats _)) _) _ _ _); (refine' stats_use ?LG_15 ?tw_15 ?Z_15 ?KB_15 ?F_15 ?N_15 ?mt_15 ?m5_15 ?ms_15 ?me_15 ?mv_15 ?U1_15 ?U2_15 ?U3_15 ?U4_15 ?U5_15 ?D_15 ?hl_15 ?I_15 ?hen_15 ?hnow_15 ?hcc_15 ?hd_15 ?_ ?hk_15; (case LG_15 => assumption); (case tw_15 => assumption); (case Z_15 => assumption); (case KB_15 => assumption); (case F_15 => k_asm); (case N_15 => k_asm); (case D_15 => assumption); (case mt_15 => k_mem); (case m5_15 => k_mem); (case ms_15 => k_mem); (case me_15 => k_mem); (case mv_15 => k_mem); (case U1_15 => k_updF); (case U2_15 => (intro xK; k_updF)); (case U3_15 => (intro xK yK; k_updF)); (case U4_15 => (intro xK yK zK; k_updF)); (case U5_15 => (intro xK yK zK uK; k_updF)); (case hl_15 => assumption); (case I_15 => assumption); (case hen_15 => assumption); (case hnow_15 => assumption); (case hcc_15 => assumption); (case hd_15 => walk_at "MINE room"); (case hk_15 => exact rfl); k_whole; refine Hold.out ?_))
  k_with "getAttr ref" => (k_here; (refine' get_tgW ?C_16 ?F_16 ?N_16 ?X_16 ?T_16 ?x_16 ?dx_16 ?a_16 ?ga_16 ?gk_16 ?h2_16 ?c_16 ?n_16 ?t_16 ?R_16 ?d_16 ?_; (case F_16 => k_asm); (case N_16 => k_asm); (case X_16 => k_asm); (case T_16 => k_asm); (case x_16 => k_mem); (case dx_16 => k_mem); (case a_16 => k_is); (case C_16 => assumption); (case ga_16 => k_is); (case gk_16 => k_is); (case h2_16 => k_is); (case c_16 => k_is); (case n_16 => k_is); (case t_16 => k_is); (case R_16 => exact rfl); (case d_16 => walk_at "MINE room"); k_whole; intro h'K tk'K F'K N'K; (try k_sweep)))
  k_with "eval Name" => (k_here; k_dflt (refine' nameX_L ?F_zn ?v_zn ?_ ?a_zn ?b_zn; (case F_zn => k_asm); (case a_zn => rfl); (case b_zn => rfl); (case v_zn => rfl); k_whole))
  trivial

theorem c_stnew (w : World) : StNewC (Mine.kmake.heap_1 w.params) PySem.Challenge.pw_jo0040_02 w := by
  have hfill : (PySem.Challenge.rw_jo0040_02 = PySem.Challenge.rw_jo0040_02) ∧ (Mine.kmake.heap_1 = Mine.kmake.heap_1) := by k_fill; exact ⟨rfl, rfl⟩
  clear hfill
  intro p loose mg mb g L m news A s fc Q E F0 N0 X0 T0 hd ret
  have hroom' := hd.d
  have hh := hd.h
  have hu := hd.u
  refine call_cls F0 X0 N0 (by k_is) (by k_is) (by k_is) fun x dx h' F1 N1 l1 l2 => ?_
  have kk : ∀ b o, g.get? b = some o → (hideAll h' [x, dx]).get? b = some o := hidden F1.keep fun a ha => by
    simp only [List.mem_cons, List.not_mem_nil, or_false] at ha
    rcases ha with rfl | rfl
    · exact (N1 _ (.head _)).2.2
    · exact (N1 _ (.tail _ (.head _))).2.2
  refine' enter (Wl := [x, dx]) (news := [(x, instObj 691 dx), (dx, dictOf [] 0)]) (binds := [("self", .ref x), ("clock", .ref fc)]) (X0.keeps kk) (T0.keeps kk) (List.forall_mem_cons.mpr ⟨⟨(N1 _ (.head _)).1, by k_mem⟩, List.forall_mem_cons.mpr ⟨⟨(N1 _ (.tail _ (.head _))).1, by k_mem⟩, fun _ h => nomatch h⟩⟩) ?ho ?hcd ?hroom ?hbind ?hloc ?_ ?c2 ?c3 ?c4 ?c5
  (case ho => k_is); (case hcd => k_is); (case hroom => rw [depth_under_make]; walk_at "MINE om"); (case hbind => exact BindsTo.of_eq rfl); (case c5 => decide); (case hloc => exact locs rfl); (case c2 => exact rfl); (case c3 => exact rfl); (case c4 => exact rfl)
  intro L' h₁ F N lt
  (try dsimp only [List.reverse, List.reverseAux] at F)
  have X := X0.keeps kk
  have T := T0.keeps kk
  have hne : @Ne Nat x dx := Nat.ne_of_gt l2
  have hltx : @LT.lt Nat _ x L' ∧ @LT.lt Nat _ dx L' := ⟨lt _ (.head _), lt _ (.tail _ (.head _))⟩
  have done := fun {h₂ m' newsX o' od'} (Fe : Fr (hideAll h' [x, dx]) L' h₂ m') (Ne : News (hideAll h' [x, dx]) L' h₂ newsX) (mx : (x, o') ∈ newsX) (md : (dx, od') ∈ newsX) => back2X F1 N1 l1 l2 Fe Ne mx md
  clear X0 T0 F0 N0 F1 N1 kk lt
  generalize hgx : hideAll h' [x, dx] = gx at *
  (try k_fold)
  k_steps
  · refine ⟨rfl, ?_⟩
    (have r0K := trivial; have tk'K := trivial; have h'K := trivial; have r1K := trivial; have u2K := trivial; have F'K := trivial; have N'K := trivial; have n'K := trivial; have u1K := trivial; have r'K := trivial; have l3K := trivial; have o1K := trivial; have oe'K := trivial; have os'K := trivial; have o2K := trivial; have ds'K := trivial; have e1K := trivial; have l4K := trivial; have e3K := trivial; have t4K := trivial; have x'K := trivial; have ov'K := trivial; have dv'K := trivial; have e2K := trivial; have l2K := trivial; have l1K := trivial; have t3K := trivial; have t2K := trivial; have t1K := trivial; have d'K := trivial; have o3K := trivial; have de'K := trivial; have l5K := trivial; have t6K := trivial; have t5K := trivial; have n1K := trivial; have d0K := trivial; have d1K := trivial; have l'K := trivial; have t0K := trivial; have a2K := trivial; have d2K := trivial; have a0K := trivial; have a1K := trivial; have P'K := trivial; have X'K := trivial; have v'K := trivial; have B'K := trivial; have O'K := trivial; have g2'K := trivial; have lg'K := trivial; have xK := trivial; have D'K := trivial; have uK := trivial; have zK := trivial; have R'K := trivial; have T'K := trivial; have yK := trivial); rename_i ds hA1 os lo1 hs1 fs1 hi1 fi1 q1 hB1 de hA2 oe lo2 hs2 fs2 hi2 fi2 q2 hB2 dv hA3 ov lo3 hs3 fs3 hi3 fi3 q3 hB3 Fz Nz
    have ns1 : ds ≠ x ∧ ds ≠ dx ∧ de ≠ x ∧ de ≠ dx ∧ dv ≠ x ∧ dv ≠ dx := ⟨Nat.ne_of_gt q1.1, Nat.ne_of_gt q1.2, Nat.ne_of_gt q2.2.1, Nat.ne_of_gt q2.2.2, Nat.ne_of_gt q3.2.2.1, Nat.ne_of_gt q3.2.2.2⟩
    obtain ⟨Fb, Nb, ex⟩ := done Fz Nz (by k_mem) (by k_mem)
    exact ret _ _ x dx ds de dv _ _ _ _ os oe ov Fb (ncons (Nb _ (.head _)) (ncons (Nb _ (.tail _ (.head _))) (ncons (ex (ds, os) (by k_mem) ns1.1 ns1.2.1).1 (ncons (ex (de, oe) (by k_mem) ns1.2.2.1 ns1.2.2.2.1).1 (ncons (ex (dv, ov) (by k_mem) ns1.2.2.2.2.1 ns1.2.2.2.2.2).1 fun q hq => Nb q (.tail _ (.tail _ hq))))))) hs1 hs2 hs3 lo1 lo2 lo3 l1 l2 q1.1 q2.1 q3.1


theorem c_limnew0 (w : World) : LimNewC (Mine.kmake.heap_1 w.params) PySem.Challenge.pw_jo0040_02 w 241 := by
  have hfill : (PySem.Challenge.rw_jo0040_02 = PySem.Challenge.rw_jo0040_02) ∧ (Mine.kmake.heap_1 = Mine.kmake.heap_1) := by k_fill; exact ⟨rfl, rfl⟩
  clear hfill
  intro p loose mg mb g L m news A s st Q E F0 N0 X0 T0 hd ret
  have hroom' := hd.d
  have hh := hd.h
  have hu := hd.u
  refine call_cls F0 X0 N0 (by k_is) (by k_is) (by k_is) fun x dx h' F1 N1 l1 l2 => ?_
  have kk : ∀ b o, g.get? b = some o → (hideAll h' [x, dx]).get? b = some o := hidden F1.keep fun a ha => by
    simp only [List.mem_cons, List.not_mem_nil, or_false] at ha
    rcases ha with rfl | rfl
    · exact (N1 _ (.head _)).2.2
    · exact (N1 _ (.tail _ (.head _))).2.2
  refine' enter (Wl := [x, dx]) (news := [(x, instObj 241 dx), (dx, dictOf [] 0)]) (binds := [("self", .ref x), ("storage", .ref st)]) (X0.keeps kk) (T0.keeps kk) (List.forall_mem_cons.mpr ⟨⟨(N1 _ (.head _)).1, by k_mem⟩, List.forall_mem_cons.mpr ⟨⟨(N1 _ (.tail _ (.head _))).1, by k_mem⟩, fun _ h => nomatch h⟩⟩) ?ho ?hcd ?hroom ?hbind ?hloc ?_ ?c2 ?c3 ?c4 ?c5
  (case ho => k_is); (case hcd => k_is); (case hroom => rw [depth_under_make]; walk_at "MINE om"); (case hbind => exact BindsTo.of_eq rfl); (case c5 => decide); (case hloc => exact locs rfl); (case c2 => exact rfl); (case c3 => exact rfl); (case c4 => exact rfl)
  intro L' h₁ F N lt
  (try dsimp only [List.reverse, List.reverseAux] at F)
  have X := X0.keeps kk
  have T := T0.keeps kk
  have hne : @Ne Nat x dx := Nat.ne_of_gt l2
  have hltx : @LT.lt Nat _ x L' ∧ @LT.lt Nat _ dx L' := ⟨lt _ (.head _), lt _ (.tail _ (.head _))⟩
  have done := fun {h₂ m' newsX o' od'} (Fe : Fr (hideAll h' [x, dx]) L' h₂ m') (Ne : News (hideAll h' [x, dx]) L' h₂ newsX) (mx : (x, o') ∈ newsX) (md : (dx, od') ∈ newsX) => back2X F1 N1 l1 l2 Fe Ne mx md
  clear X0 T0 F0 N0 F1 N1 kk lt
  generalize hgx : hideAll h' [x, dx] = gx at *
  (try k_fold)
  k_steps
  · refine ⟨rfl, ?_⟩
    (have r0K := trivial; have tk'K := trivial; have h'K := trivial; have r1K := trivial; have u2K := trivial; have F'K := trivial; have N'K := trivial; have n'K := trivial; have u1K := trivial; have r'K := trivial; have l3K := trivial; have o1K := trivial; have oe'K := trivial; have os'K := trivial; have o2K := trivial; have ds'K := trivial; have e1K := trivial; have l4K := trivial; have e3K := trivial; have t4K := trivial; have x'K := trivial; have ov'K := trivial; have dv'K := trivial; have e2K := trivial; have l2K := trivial; have l1K := trivial; have t3K := trivial; have t2K := trivial; have t1K := trivial; have d'K := trivial; have o3K := trivial; have de'K := trivial; have l5K := trivial; have t6K := trivial; have t5K := trivial; have n1K := trivial; have d0K := trivial; have d1K := trivial; have l'K := trivial; have t0K := trivial; have a2K := trivial; have d2K := trivial; have a0K := trivial; have a1K := trivial; have P'K := trivial; have X'K := trivial; have v'K := trivial; have B'K := trivial; have O'K := trivial; have g2'K := trivial; have lg'K := trivial; have xK := trivial; have D'K := trivial; have uK := trivial; have zK := trivial; have R'K := trivial; have T'K := trivial; have yK := trivial); rename_i hz Fz Nz
    obtain ⟨Fb, Nb, ex⟩ := done Fz Nz (by k_mem) (by k_mem)
    exact ret _ _ x dx _ Fb Nb l1 l2
theorem c_limnew1 (w : World) : LimNewC (Mine.kmake.heap_1 w.params) PySem.Challenge.pw_jo0040_02 w 202 := by
  have hfill : (PySem.Challenge.rw_jo0040_02 = PySem.Challenge.rw_jo0040_02) ∧ (Mine.kmake.heap_1 = Mine.kmake.heap_1) := by k_fill; exact ⟨rfl, rfl⟩
  clear hfill
  intro p loose mg mb g L m news A s st Q E F0 N0 X0 T0 hd ret
  have hroom' := hd.d
  have hh := hd.h
  have hu := hd.u
  refine call_cls F0 X0 N0 (by k_is) (by k_is) (by k_is) fun x dx h' F1 N1 l1 l2 => ?_
  have kk : ∀ b o, g.get? b = some o → (hideAll h' [x, dx]).get? b = some o := hidden F1.keep fun a ha => by
    simp only [List.mem_cons, List.not_mem_nil, or_false] at ha
    rcases ha with rfl | rfl
    · exact (N1 _ (.head _)).2.2
    · exact (N1 _ (.tail _ (.head _))).2.2
  refine' enter (Wl := [x, dx]) (news := [(x, instObj 202 dx), (dx, dictOf [] 0)]) (binds := [("self", .ref x), ("storage", .ref st)]) (X0.keeps kk) (T0.keeps kk) (List.forall_mem_cons.mpr ⟨⟨(N1 _ (.head _)).1, by k_mem⟩, List.forall_mem_cons.mpr ⟨⟨(N1 _ (.tail _ (.head _))).1, by k_mem⟩, fun _ h => nomatch h⟩⟩) ?ho ?hcd ?hroom ?hbind ?hloc ?_ ?c2 ?c3 ?c4 ?c5
  (case ho => k_is); (case hcd => k_is); (case hroom => rw [depth_under_make]; walk_at "MINE om"); (case hbind => exact BindsTo.of_eq rfl); (case c5 => decide); (case hloc => exact locs rfl); (case c2 => exact rfl); (case c3 => exact rfl); (case c4 => exact rfl)
  intro L' h₁ F N lt
  (try dsimp only [List.reverse, List.reverseAux] at F)
  have X := X0.keeps kk
  have T := T0.keeps kk
  have hne : @Ne Nat x dx := Nat.ne_of_gt l2
  have hltx : @LT.lt Nat _ x L' ∧ @LT.lt Nat _ dx L' := ⟨lt _ (.head _), lt _ (.tail _ (.head _))⟩
  have done := fun {h₂ m' newsX o' od'} (Fe : Fr (hideAll h' [x, dx]) L' h₂ m') (Ne : News (hideAll h' [x, dx]) L' h₂ newsX) (mx : (x, o') ∈ newsX) (md : (dx, od') ∈ newsX) => back2X F1 N1 l1 l2 Fe Ne mx md
  clear X0 T0 F0 N0 F1 N1 kk lt
  generalize hgx : hideAll h' [x, dx] = gx at *
  (try k_fold)
  k_steps
  · refine ⟨rfl, ?_⟩
    (have r0K := trivial; have tk'K := trivial; have h'K := trivial; have r1K := trivial; have u2K := trivial; have F'K := trivial; have N'K := trivial; have n'K := trivial; have u1K := trivial; have r'K := trivial; have l3K := trivial; have o1K := trivial; have oe'K := trivial; have os'K := trivial; have o2K := trivial; have ds'K := trivial; have e1K := trivial; have l4K := trivial; have e3K := trivial; have t4K := trivial; have x'K := trivial; have ov'K := trivial; have dv'K := trivial; have e2K := trivial; have l2K := trivial; have l1K := trivial; have t3K := trivial; have t2K := trivial; have t1K := trivial; have d'K := trivial; have o3K := trivial; have de'K := trivial; have l5K := trivial; have t6K := trivial; have t5K := trivial; have n1K := trivial; have d0K := trivial; have d1K := trivial; have l'K := trivial; have t0K := trivial; have a2K := trivial; have d2K := trivial; have a0K := trivial; have a1K := trivial; have P'K := trivial; have X'K := trivial; have v'K := trivial; have B'K := trivial; have O'K := trivial; have g2'K := trivial; have lg'K := trivial; have xK := trivial; have D'K := trivial; have uK := trivial; have zK := trivial; have R'K := trivial; have T'K := trivial; have yK := trivial); rename_i hz Fz Nz
    obtain ⟨Fb, Nb, ex⟩ := done Fz Nz (by k_mem) (by k_mem)
    exact ret _ _ x dx _ Fb Nb l1 l2
theorem c_limnew2 (w : World) : LimNewC (Mine.kmake.heap_1 w.params) PySem.Challenge.pw_jo0040_02 w 296 := by
  have hfill : (PySem.Challenge.rw_jo0040_02 = PySem.Challenge.rw_jo0040_02) ∧ (Mine.kmake.heap_1 = Mine.kmake.heap_1) := by k_fill; exact ⟨rfl, rfl⟩
  clear hfill
  intro p loose mg mb g L m news A s st Q E F0 N0 X0 T0 hd ret
  have hroom' := hd.d
  have hh := hd.h
  have hu := hd.u
  refine call_cls F0 X0 N0 (by k_is) (by k_is) (by k_is) fun x dx h' F1 N1 l1 l2 => ?_
  have kk : ∀ b o, g.get? b = some o → (hideAll h' [x, dx]).get? b = some o := hidden F1.keep fun a ha => by
    simp only [List.mem_cons, List.not_mem_nil, or_false] at ha
    rcases ha with rfl | rfl
    · exact (N1 _ (.head _)).2.2
    · exact (N1 _ (.tail _ (.head _))).2.2
  refine' enter (Wl := [x, dx]) (news := [(x, instObj 296 dx), (dx, dictOf [] 0)]) (binds := [("self", .ref x), ("storage", .ref st)]) (X0.keeps kk) (T0.keeps kk) (List.forall_mem_cons.mpr ⟨⟨(N1 _ (.head _)).1, by k_mem⟩, List.forall_mem_cons.mpr ⟨⟨(N1 _ (.tail _ (.head _))).1, by k_mem⟩, fun _ h => nomatch h⟩⟩) ?ho ?hcd ?hroom ?hbind ?hloc ?_ ?c2 ?c3 ?c4 ?c5
  (case ho => k_is); (case hcd => k_is); (case hroom => rw [depth_under_make]; walk_at "MINE om"); (case hbind => exact BindsTo.of_eq rfl); (case c5 => decide); (case hloc => exact locs rfl); (case c2 => exact rfl); (case c3 => exact rfl); (case c4 => exact rfl)
  intro L' h₁ F N lt
  (try dsimp only [List.reverse, List.reverseAux] at F)
  have X := X0.keeps kk
  have T := T0.keeps kk
  have hne : @Ne Nat x dx := Nat.ne_of_gt l2
  have hltx : @LT.lt Nat _ x L' ∧ @LT.lt Nat _ dx L' := ⟨lt _ (.head _), lt _ (.tail _ (.head _))⟩
  have done := fun {h₂ m' newsX o' od'} (Fe : Fr (hideAll h' [x, dx]) L' h₂ m') (Ne : News (hideAll h' [x, dx]) L' h₂ newsX) (mx : (x, o') ∈ newsX) (md : (dx, od') ∈ newsX) => back2X F1 N1 l1 l2 Fe Ne mx md
  clear X0 T0 F0 N0 F1 N1 kk lt
  generalize hgx : hideAll h' [x, dx] = gx at *
  (try k_fold)
  k_steps
  · refine ⟨rfl, ?_⟩
    (have r0K := trivial; have tk'K := trivial; have h'K := trivial; have r1K := trivial; have u2K := trivial; have F'K := trivial; have N'K := trivial; have n'K := trivial; have u1K := trivial; have r'K := trivial; have l3K := trivial; have o1K := trivial; have oe'K := trivial; have os'K := trivial; have o2K := trivial; have ds'K := trivial; have e1K := trivial; have l4K := trivial; have e3K := trivial; have t4K := trivial; have x'K := trivial; have ov'K := trivial; have dv'K := trivial; have e2K := trivial; have l2K := trivial; have l1K := trivial; have t3K := trivial; have t2K := trivial; have t1K := trivial; have d'K := trivial; have o3K := trivial; have de'K := trivial; have l5K := trivial; have t6K := trivial; have t5K := trivial; have n1K := trivial; have d0K := trivial; have d1K := trivial; have l'K := trivial; have t0K := trivial; have a2K := trivial; have d2K := trivial; have a0K := trivial; have a1K := trivial; have P'K := trivial; have X'K := trivial; have v'K := trivial; have B'K := trivial; have O'K := trivial; have g2'K := trivial; have lg'K := trivial; have xK := trivial; have D'K := trivial; have uK := trivial; have zK := trivial; have R'K := trivial; have T'K := trivial; have yK := trivial); rename_i hz Fz Nz
    obtain ⟨Fb, Nb, ex⟩ := done Fz Nz (by k_mem) (by k_mem)
    exact ret _ _ x dx _ Fb Nb l1 l2


theorem c_itnew1 (w : World) : ItNewC (Mine.kmake.heap_1 w.params) PySem.Challenge.pw_jo0040_02 w 518 "LIMITER" (fun a l u1 u2 _ => [.int a u1, .int l u2]) := by
  have hfill : (PySem.Challenge.rw_jo0040_02 = PySem.Challenge.rw_jo0040_02) ∧ (Mine.kmake.heap_1 = Mine.kmake.heap_1) := by k_fill; exact ⟨rfl, rfl⟩
  clear hfill
  intro p loose mg mb g L m news A s amount length u1 u2 u3 Q E F0 N0 X0 T0 ha0 ha1 hl0 hl1 hd ret
  have hroom' := hd.d
  have hh := hd.h
  have hu := hd.u
  refine call_cls F0 X0 N0 (by k_is) (by k_is) (by k_is) fun x dx h' F1 N1 l1 l2 => ?_
  have kk : ∀ b o, g.get? b = some o → (hideAll h' [x, dx]).get? b = some o := hidden F1.keep fun a ha => by
    simp only [List.mem_cons, List.not_mem_nil, or_false] at ha
    rcases ha with rfl | rfl
    · exact (N1 _ (.head _)).2.2
    · exact (N1 _ (.tail _ (.head _))).2.2
  refine' enter (Wl := [x, dx]) (news := [(x, instObj 518 dx), (dx, dictOf [] 0)]) (binds := [("self", .ref x), ("amount", .int amount u1), ("multiples", .int length u2), ("namespace", .str "LIMITER" 803)]) (X0.keeps kk) (T0.keeps kk) (List.forall_mem_cons.mpr ⟨⟨(N1 _ (.head _)).1, by k_mem⟩, List.forall_mem_cons.mpr ⟨⟨(N1 _ (.tail _ (.head _))).1, by k_mem⟩, fun _ h => nomatch h⟩⟩) ?ho ?hcd ?hroom ?hbind ?hloc ?_ ?c2 ?c3 ?c4 ?c5
  (case ho => k_is); (case hcd => k_is); (case hroom => rw [depth_under_make]; walk_at "MINE om"); (case hbind => exact binds_K (X0.keeps fun b o e => F1.keep b o e) rfl (by k_is) rfl rfl rfl); (case c5 => decide); (case hloc => exact locs rfl); (case c2 => exact rfl); (case c3 => exact rfl); (case c4 => exact rfl)
  intro L' h₁ F N lt
  (try dsimp only [List.reverse, List.reverseAux] at F)
  have X := X0.keeps kk
  have T := T0.keeps kk
  have hne : @Ne Nat x dx := Nat.ne_of_gt l2
  have hltx : @LT.lt Nat _ x L' ∧ @LT.lt Nat _ dx L' := ⟨lt _ (.head _), lt _ (.tail _ (.head _))⟩
  have done := fun {h₂ m' newsX o' od'} (Fe : Fr (hideAll h' [x, dx]) L' h₂ m') (Ne : News (hideAll h' [x, dx]) L' h₂ newsX) (mx : (x, o') ∈ newsX) (md : (dx, od') ∈ newsX) => back2X F1 N1 l1 l2 Fe Ne mx md
  clear X0 T0 F0 N0 F1 N1 kk lt
  generalize hgx : hideAll h' [x, dx] = gx at *
  (try k_fold)
  k_steps
  all_goals first | contradiction | (exfalso; walk_at "MINE om") | skip
  · refine ⟨rfl, ?_⟩
    (have r0K := trivial; have tk'K := trivial; have h'K := trivial; have r1K := trivial; have u2K := trivial; have F'K := trivial; have N'K := trivial; have n'K := trivial; have u1K := trivial; have r'K := trivial; have l3K := trivial; have o1K := trivial; have oe'K := trivial; have os'K := trivial; have o2K := trivial; have ds'K := trivial; have e1K := trivial; have l4K := trivial; have e3K := trivial; have t4K := trivial; have x'K := trivial; have ov'K := trivial; have dv'K := trivial; have e2K := trivial; have l2K := trivial; have l1K := trivial; have t3K := trivial; have t2K := trivial; have t1K := trivial; have d'K := trivial; have o3K := trivial; have de'K := trivial; have l5K := trivial; have t6K := trivial; have t5K := trivial; have n1K := trivial; have d0K := trivial; have d1K := trivial; have l'K := trivial; have t0K := trivial; have a2K := trivial; have d2K := trivial; have a0K := trivial; have a1K := trivial; have P'K := trivial; have X'K := trivial; have v'K := trivial; have B'K := trivial; have O'K := trivial; have g2'K := trivial; have lg'K := trivial; have xK := trivial; have D'K := trivial; have uK := trivial; have zK := trivial; have R'K := trivial; have T'K := trivial; have yK := trivial); rename_i hz Fz Nz
    obtain ⟨Fb, Nb, ex⟩ := done Fz Nz (by k_mem) (by k_mem)
    exact ret _ _ x dx _ _ _ _ _ _ Fb Nb l1 l2
theorem c_itnew2 (w : World) (ns : Str) : ItNewC (Mine.kmake.heap_1 w.params) PySem.Challenge.pw_jo0040_02 w 501 ns (fun a l u1 u2 u3 => [.int a u1, .int l u2, .str ns u3]) := by
  have hfill : (PySem.Challenge.rw_jo0040_02 = PySem.Challenge.rw_jo0040_02) ∧ (Mine.kmake.heap_1 = Mine.kmake.heap_1) := by k_fill; exact ⟨rfl, rfl⟩
  clear hfill
  intro p loose mg mb g L m news A s amount length u1 u2 u3 Q E F0 N0 X0 T0 ha0 ha1 hl0 hl1 hd ret
  have hroom' := hd.d
  have hh := hd.h
  have hu := hd.u
  refine call_cls F0 X0 N0 (by k_is) (by k_is) (by k_is) fun x dx h' F1 N1 l1 l2 => ?_
  have kk : ∀ b o, g.get? b = some o → (hideAll h' [x, dx]).get? b = some o := hidden F1.keep fun a ha => by
    simp only [List.mem_cons, List.not_mem_nil, or_false] at ha
    rcases ha with rfl | rfl
    · exact (N1 _ (.head _)).2.2
    · exact (N1 _ (.tail _ (.head _))).2.2
  refine' enter (Wl := [x, dx]) (news := [(x, instObj 501 dx), (dx, dictOf [] 0)]) (binds := [("self", .ref x), ("amount", .int amount u1), ("multiples", .int length u2), ("namespace", .str ns u3)]) (X0.keeps kk) (T0.keeps kk) (List.forall_mem_cons.mpr ⟨⟨(N1 _ (.head _)).1, by k_mem⟩, List.forall_mem_cons.mpr ⟨⟨(N1 _ (.tail _ (.head _))).1, by k_mem⟩, fun _ h => nomatch h⟩⟩) ?ho ?hcd ?hroom ?hbind ?hloc ?_ ?c2 ?c3 ?c4 ?c5
  (case ho => k_is); (case hcd => k_is); (case hroom => rw [depth_under_make]; walk_at "MINE om"); (case hbind => exact binds_K (X0.keeps fun b o e => F1.keep b o e) rfl (by k_is) rfl rfl rfl); (case c5 => decide); (case hloc => exact locs rfl); (case c2 => exact rfl); (case c3 => exact rfl); (case c4 => exact rfl)
  intro L' h₁ F N lt
  (try dsimp only [List.reverse, List.reverseAux] at F)
  have X := X0.keeps kk
  have T := T0.keeps kk
  have hne : @Ne Nat x dx := Nat.ne_of_gt l2
  have hltx : @LT.lt Nat _ x L' ∧ @LT.lt Nat _ dx L' := ⟨lt _ (.head _), lt _ (.tail _ (.head _))⟩
  have done := fun {h₂ m' newsX o' od'} (Fe : Fr (hideAll h' [x, dx]) L' h₂ m') (Ne : News (hideAll h' [x, dx]) L' h₂ newsX) (mx : (x, o') ∈ newsX) (md : (dx, od') ∈ newsX) => back2X F1 N1 l1 l2 Fe Ne mx md
  clear X0 T0 F0 N0 F1 N1 kk lt
  generalize hgx : hideAll h' [x, dx] = gx at *
  (try k_fold)
  k_steps
  all_goals first | contradiction | (exfalso; walk_at "MINE om") | skip
  · refine ⟨rfl, ?_⟩
    (have r0K := trivial; have tk'K := trivial; have h'K := trivial; have r1K := trivial; have u2K := trivial; have F'K := trivial; have N'K := trivial; have n'K := trivial; have u1K := trivial; have r'K := trivial; have l3K := trivial; have o1K := trivial; have oe'K := trivial; have os'K := trivial; have o2K := trivial; have ds'K := trivial; have e1K := trivial; have l4K := trivial; have e3K := trivial; have t4K := trivial; have x'K := trivial; have ov'K := trivial; have dv'K := trivial; have e2K := trivial; have l2K := trivial; have l1K := trivial; have t3K := trivial; have t2K := trivial; have t1K := trivial; have d'K := trivial; have o3K := trivial; have de'K := trivial; have l5K := trivial; have t6K := trivial; have t5K := trivial; have n1K := trivial; have d0K := trivial; have d1K := trivial; have l'K := trivial; have t0K := trivial; have a2K := trivial; have d2K := trivial; have a0K := trivial; have a1K := trivial; have P'K := trivial; have X'K := trivial; have v'K := trivial; have B'K := trivial; have O'K := trivial; have g2'K := trivial; have lg'K := trivial; have xK := trivial; have D'K := trivial; have uK := trivial; have zK := trivial; have R'K := trivial; have T'K := trivial; have yK := trivial); rename_i hz Fz Nz
    obtain ⟨Fb, Nb, ex⟩ := done Fz Nz (by k_mem) (by k_mem)
    exact ret _ _ x dx _ _ _ _ _ _ Fb Nb l1 l2

theorem reg_CCk : True := by
  k_with_none
  k_with "MINE pj" => (first | with_reducible assumption | exact an0 (by with_reducible assumption) | exact an1 (by with_reducible assumption) | exact an2 (by with_reducible assumption) | exact an3 (by with_reducible assumption) | exact an4 (by with_reducible assumption) | exact an5 (by with_reducible assumption) | exact an6 (by with_reducible assumption) | exact an7 (by with_reducible assumption) | exact an8 (by with_reducible assumption) | exact an9 (by with_reducible assumption) | exact bn1 (by with_reducible assumption) | exact bn2 (by with_reducible assumption) | exact bn3 (by with_reducible assumption) | exact bn4 (by with_reducible assumption) | exact bn5 (by with_reducible assumption) | exact bn6 (by with_reducible assumption) | exact bn7 (by with_reducible assumption) | exact bn8 (by with_reducible assumption))
  k_with "MINE lt" => (first | walk_at "MINE pj" | (with_reducible refine Nat.lt_trans ?_ (by with_reducible assumption); walk_at "MINE lt"))
  k_with "MINE ne" => (with_reducible refine neN ?_; (try dsimp only); first | with_reducible assumption | (refine Ne.symm ?_; with_reducible assumption) | (refine Nat.ne_of_lt ?_; with_reducible assumption) | (refine Nat.ne_of_gt ?_; with_reducible assumption) | (simp only [*, ne_eq, not_false_eq_true]; done) | (refine Ne.symm ?_; (simp only [*, ne_eq, not_false_eq_true]; done)) | (refine Nat.ne_of_lt ?_; (simp only [*]; done)) | (refine Nat.ne_of_gt ?_; (simp only [*]; done)) | assumption | decide | (refine Nat.ne_of_gt ?_; walk_at "MINE lt") | (refine Nat.ne_of_lt ?_; walk_at "MINE lt") | lia | omega)
  k_with "MINE nes" => (repeat' (first | (refine And.intro ?_ ?_) | (with_reducible refine neN ?_; walk_at "MINE ne")))
  k_with "MINE om" => (first | with_reducible assumption | exact Nat.le_of_ble_eq_true rfl | exact an0 (by with_reducible assumption) | exact bn1 (by with_reducible assumption) | exact an1 (by with_reducible assumption) | exact Nat.lt_of_le_of_lt (Nat.le_add_right _ _) (by with_reducible assumption) | exact Int.lt_trans (by with_reducible assumption) (by decide) | exact Int.lt_trans (bn1 (by with_reducible assumption)) (by decide) | exact Int.lt_of_lt_of_le (by decide) (by with_reducible assumption) | exact Int.lt_of_lt_of_le (by decide) (an0 (by with_reducible assumption)) | exact Nat.le_trans (by with_reducible assumption) (by decide) | exact Int.le_of_lt (by with_reducible assumption) | exact Int.le_trans (by with_reducible assumption) (by decide) | exact Int.lt_of_le_of_lt (by with_reducible assumption) (by decide) | decide | (walk_at "MINE nes"; done) | lia | omega)
  k_with "MINE get" => first | (refine' Fr.keep ?fr_0 _ _ ?gt_0; (case fr_0 => k_asm); (case gt_0 => assumption)) | (refine' Fr.keep ?fr_0 _ _ (Below.stays ?kb_0 _ _ ?bt_0); (case fr_0 => k_asm); (case kb_0 => assumption); (case bt_0 => assumption)) | (refine' news_at ?nn_0 ?mm_0; (case nn_0 => k_asm); (case mm_0 => k_mem))
  k_with "subscriptTail" => (k_here; (with_reducible show wpAny _ _ (subscriptTail _ _ (Value.ref _) (Value.int _ _)) _ _ _); k_dflt (refine' lst_in ?l_1 ?a_1 ?b_1 ?v_1 ?_; (case l_1 => walk_at "MINE get"); (case a_1 => walk_at "MINE om"); (case b_1 => walk_at "MINE om"); (case v_1 => assumption); k_whole))
  k_with "eval Name" => (refine Hold.out ?_)
  k_with "eval Name" => (k_here; k_dflt (refine' nameX_L ?F_zn ?v_zn ?_ ?a_zn ?b_zn; (case F_zn => k_asm); (case a_zn => rfl); (case b_zn => rfl); (case v_zn => rfl); k_whole))
  trivial

theorem c_clk1 (w : World) : ClkC1 (Mine.kmake.heap_1 w.params) PySem.Challenge.pw_jo0040_02 w := by
  have hfill : (PySem.Challenge.rw_jo0040_02 = PySem.Challenge.rw_jo0040_02) ∧ (Mine.kmake.heap_1 = Mine.kmake.heap_1) := by k_fill; exact ⟨rfl, rfl⟩
  clear hfill
  intro p loose mg mb g0 fc c' c nowl qual pm ctv p1 p2 p3 n t k0 oc X0 T0 hf hcd hc hcdt hnl A s Q E hd hsub ret
  have hroom' := hd.d
  have hh := hd.h
  have hu := hd.u
  have X := X0.keeps hsub
  have T := T0.keeps hsub
  have hc' := hsub _ _ hc
  have hnl' := hsub _ _ hnl
  have hidx : ([Value.int n t] : List Value)[(0 : Int).toNat]? = some (.int n t) := rfl
  have hcd' : s.heap.CodeRec (.ref c') qual := by
    obtain ⟨a, o, v, q, e1, e2, e3, e4⟩ := hcd
    exact ⟨a, o, v, q, e1, hsub _ _ e2, e3, e4⟩
  refine wpAny_call ?_
  refine' enterLC (binds := []) T (hsub _ _ hf) hcd' (by walk_at "MINE om") rfl (fun _ h => nomatch h) ?_ rfl rfl rfl (by decide)
  intro L' h₁ F N
  (try dsimp only [List.reverse, List.reverseAux] at F)
  clear X0 T0 hsub hf hcd hc hnl
  generalize hg : s.heap = g at *
  (try k_fold)
  k_steps
  refine ⟨?_⟩
  refine nameX_FG (c := c) F rfl hc' hcdt ?_ rfl rfl (by decide) (by decide)
  k_steps
  exact ret _ _ _ F.keep
theorem c_clk2 (w : World) : ClkC2 (Mine.kmake.heap_1 w.params) PySem.Challenge.pw_jo0040_02 w := by
  have hfill : (PySem.Challenge.rw_jo0040_02 = PySem.Challenge.rw_jo0040_02) ∧ (Mine.kmake.heap_1 = Mine.kmake.heap_1) := by k_fill; exact ⟨rfl, rfl⟩
  clear hfill
  intro p loose mg mb g0 fc c' c c2 nowl qual pm ctv p1 p2 p3 p4 p5 p6 p7 n a t ta k0 oc oa X0 T0 hf hcd hc hcdt ha hadt hnl A s Q E hd hsub ret
  have hroom' := hd.d
  have hh := hd.h
  have hu := hd.u
  have X := X0.keeps hsub
  have T := T0.keeps hsub
  have hc' := hsub _ _ hc
  have ha' := hsub _ _ ha
  have hnl' := hsub _ _ hnl
  have hidx : ([Value.int n t] : List Value)[(0 : Int).toNat]? = some (.int n t) := rfl
  have hcd' : s.heap.CodeRec (.ref c') qual := by
    obtain ⟨a, o, v, q, e1, e2, e3, e4⟩ := hcd
    exact ⟨a, o, v, q, e1, hsub _ _ e2, e3, e4⟩
  refine wpAny_call ?_
  refine' enterLC (binds := []) T (hsub _ _ hf) hcd' (by walk_at "MINE om") rfl (fun _ h => nomatch h) ?_ rfl rfl rfl (by decide)
  intro L' h₁ F N
  (try dsimp only [List.reverse, List.reverseAux] at F)
  clear X0 T0 hsub hf hcd hc hnl ha
  generalize hg : s.heap = g at *
  (try k_fold)
  k_steps
  refine ⟨?_⟩
  refine nameX_FG (c := c) F rfl hc' hcdt ?_ rfl rfl (by decide) (by decide)
  k_steps
  refine ⟨?_⟩
  refine nameX_FG (c := c2) F rfl ha' hadt ?_ rfl rfl (by decide) (by decide)
  k_steps
  exact ret _ _ _ F.keep

theorem reg_CIk : True := by
  k_with_none
  k_with "MINE pj" => (first | with_reducible assumption | exact an0 (by with_reducible assumption) | exact an1 (by with_reducible assumption) | exact an2 (by with_reducible assumption) | exact an3 (by with_reducible assumption) | exact an4 (by with_reducible assumption) | exact an5 (by with_reducible assumption) | exact an6 (by with_reducible assumption) | exact an7 (by with_reducible assumption) | exact an8 (by with_reducible assumption) | exact an9 (by with_reducible assumption) | exact bn1 (by with_reducible assumption) | exact bn2 (by with_reducible assumption) | exact bn3 (by with_reducible assumption) | exact bn4 (by with_reducible assumption) | exact bn5 (by with_reducible assumption) | exact bn6 (by with_reducible assumption) | exact bn7 (by with_reducible assumption) | exact bn8 (by with_reducible assumption))
  k_with "MINE lt" => (first | walk_at "MINE pj" | (with_reducible refine Nat.lt_trans ?_ (by with_reducible assumption); walk_at "MINE lt"))
  k_with "MINE ne" => (with_reducible refine neN ?_; (try dsimp only); first | with_reducible assumption | (refine Ne.symm ?_; with_reducible assumption) | (refine Nat.ne_of_lt ?_; with_reducible assumption) | (refine Nat.ne_of_gt ?_; with_reducible assumption) | (simp only [*, ne_eq, not_false_eq_true]; done) | (refine Ne.symm ?_; (simp only [*, ne_eq, not_false_eq_true]; done)) | (refine Nat.ne_of_lt ?_; (simp only [*]; done)) | (refine Nat.ne_of_gt ?_; (simp only [*]; done)) | assumption | decide | (refine Nat.ne_of_gt ?_; walk_at "MINE lt") | (refine Nat.ne_of_lt ?_; walk_at "MINE lt") | lia | omega)
  k_with "MINE nes" => (repeat' (first | (refine And.intro ?_ ?_) | (with_reducible refine neN ?_; walk_at "MINE ne")))
  k_with "MINE om" => (first | with_reducible assumption | exact Nat.le_of_ble_eq_true rfl | exact an0 (by with_reducible assumption) | exact bn1 (by with_reducible assumption) | exact an1 (by with_reducible assumption) | exact Nat.lt_of_le_of_lt (Nat.le_add_right _ _) (by with_reducible assumption) | exact Int.lt_trans (by with_reducible assumption) (by decide) | exact Int.lt_trans (bn1 (by with_reducible assumption)) (by decide) | exact Int.lt_of_lt_of_le (by decide) (by with_reducible assumption) | exact Int.lt_of_lt_of_le (by decide) (an0 (by with_reducible assumption)) | exact Nat.le_trans (by with_reducible assumption) (by decide) | exact Int.le_of_lt (by with_reducible assumption) | exact Int.le_trans (by with_reducible assumption) (by decide) | exact Int.lt_of_le_of_lt (by with_reducible assumption) (by decide) | decide | (walk_at "MINE nes"; done) | lia | omega)
  k_with "eval Name" => (k_here; k_dflt (refine' nameX_L ?F_zn ?v_zn ?_ ?a_zn ?b_zn; (case F_zn => k_asm); (case a_zn => rfl); (case b_zn => rfl); (case v_zn => rfl); k_whole))
  trivial
theorem c_itk1 (w : World) : ItK (Mine.kmake.heap_1 w.params) 501 := by
  have hfill : (PySem.Challenge.rw_jo0040_02 = PySem.Challenge.rw_jo0040_02) ∧ (Mine.kmake.heap_1 = Mine.kmake.heap_1) := by k_fill; exact ⟨rfl, rfl⟩
  clear hfill
  exact ⟨by k_is, by k_is, by k_is, by k_is, by k_is, by k_is, by k_is, by k_is, by k_is, by k_is⟩
theorem c_itk2 (w : World) : ItK (Mine.kmake.heap_1 w.params) 518 := by
  have hfill : (PySem.Challenge.rw_jo0040_02 = PySem.Challenge.rw_jo0040_02) ∧ (Mine.kmake.heap_1 = Mine.kmake.heap_1) := by k_fill; exact ⟨rfl, rfl⟩
  clear hfill
  exact ⟨by k_is, by k_is, by k_is, by k_is, by k_is, by k_is, by k_is, by k_is, by k_is, by k_is⟩

theorem c_limg (w : World) (kind : Int) (hk : kind = 0 ∨ kind = 1 ∨ kind = 2)
    (t0 : LimK (Mine.kmake.heap_1 w.params) PySem.Challenge.pw_jo0040_02 w 229 241 b4 0 (fun σ now key _ _ _ => sGetS σ now key) (fun σ now key amount ex cost v _ _ => isB (test0R σ now key amount ex cost) v))
    (h0 : LimK (Mine.kmake.heap_1 w.params) PySem.Challenge.pw_jo0040_02 w 220 241 b4 1 hit0S (fun σ now key amount ex cost v _ _ => isB (hit0R σ now key amount ex cost) v))
    (s0 : LimK (Mine.kmake.heap_1 w.params) PySem.Challenge.pw_jo0040_02 w 238 241 b3 0 (fun σ now key _ _ _ => sGetS σ now key) (fun σ now key amount ex _ v h' h => WsAt (reset0 σ now key amount ex, 1) false (left0 σ now key amount ex) v h' h))
    (c0 : LimK (Mine.kmake.heap_1 w.params) PySem.Challenge.pw_jo0040_02 w 158 241 b3 0 (fun σ _ key _ _ _ => sClr σ key) (fun _ _ _ _ _ _ v _ _ => v = .none))
    (t1 : LimK (Mine.kmake.heap_1 w.params) PySem.Challenge.pw_jo0040_02 w 190 202 b4 0 (fun σ _ _ _ _ _ => σ) (fun σ now key amount ex cost v _ _ => isB (test1R σ now key amount ex cost) v))
    (h1 : LimK (Mine.kmake.heap_1 w.params) PySem.Challenge.pw_jo0040_02 w 181 202 b4 1 hit1S (fun σ now key amount ex cost v _ _ => isB (hit1R σ now key amount ex cost) v))
    (s1 : LimK (Mine.kmake.heap_1 w.params) PySem.Challenge.pw_jo0040_02 w 199 202 b3 0 (fun σ _ _ _ _ _ => σ) (fun σ now key amount ex _ v h' h => WsAt (reset1 σ now key amount ex, 1) false (left1 σ now key amount ex) v h' h))
    (c1 : LimK (Mine.kmake.heap_1 w.params) PySem.Challenge.pw_jo0040_02 w 158 202 b3 0 (fun σ _ key _ _ _ => sClr σ key) (fun _ _ _ _ _ _ v _ _ => v = .none))
    (t2 : LimK (Mine.kmake.heap_1 w.params) PySem.Challenge.pw_jo0040_02 w 275 296 b4 0 (fun σ now key _ ex _ => sInfoS σ now (kP key now ex) (kC key now ex)) (fun σ now key amount ex cost v _ _ => isB (test2R σ now key amount ex cost) v))
    (h2 : LimK (Mine.kmake.heap_1 w.params) PySem.Challenge.pw_jo0040_02 w 266 296 b4 1 hit2S (fun σ now key amount ex cost v _ _ => isB (hit2R σ now key amount ex cost) v))
    (s2 : LimK (Mine.kmake.heap_1 w.params) PySem.Challenge.pw_jo0040_02 w 284 296 b3 0 (fun σ now key _ ex _ => sInfoS σ now (kP key now ex) (kC key now ex)) (fun σ now key amount ex _ v h' h => WsAt (reset2 σ now key amount ex) true (left2 σ now key amount ex) v h' h))
    (c2 : LimK (Mine.kmake.heap_1 w.params) PySem.Challenge.pw_jo0040_02 w 293 296 b3 0 (fun σ now key _ ex _ => sClr (sClr σ (kP key now ex)) (kC key now ex)) (fun _ _ _ _ _ _ v _ _ => v = .none))
    : LimG (Mine.kmake.heap_1 w.params) PySem.Challenge.pw_jo0040_02 w kind := by
  have hfill : (PySem.Challenge.rw_jo0040_02 = PySem.Challenge.rw_jo0040_02) ∧ (Mine.kmake.heap_1 = Mine.kmake.heap_1) := by k_fill; exact ⟨rfl, rfl⟩
  clear hfill
  rcases hk with rfl | rfl | rfl
  · exact ⟨t0, h0, s0, c0, ⟨by k_is, by k_is, by k_is, by k_is, fun _ _ _ => by k_get⟩, ⟨by k_is, by k_is, by k_is, by k_is, fun _ _ _ => by k_get⟩, ⟨by k_is, by k_is, by k_is, by k_is, fun _ _ _ => by k_get⟩, ⟨by k_is, by k_is, by k_is, by k_is, fun _ _ _ => by k_get⟩, (fun _ _ _ _ _ => bindK_of (by k_is) (fun s X => by first | exact BindsTo.of_eq rfl | exact binds_K X rfl (by k_is) rfl rfl rfl)), ⟨_, (fun _ _ _ => bindK_of (by k_is) (fun s X => by first | exact BindsTo.of_eq rfl | exact binds_K X rfl (by k_is) rfl rfl rfl))⟩, (fun _ _ _ _ _ => bindK_of (by k_is) (fun s X => by first | exact BindsTo.of_eq rfl | exact binds_K X rfl (by k_is) rfl rfl rfl)), (fun _ _ _ => bindK_of (by k_is) (fun s X => by first | exact BindsTo.of_eq rfl | exact binds_K X rfl (by k_is) rfl rfl rfl)), (fun _ _ _ => bindK_of (by k_is) (fun s X => by first | exact BindsTo.of_eq rfl | exact binds_K X rfl (by k_is) rfl rfl rfl))⟩
  · exact ⟨t1, h1, s1, c1, ⟨by k_is, by k_is, by k_is, by k_is, fun _ _ _ => by k_get⟩, ⟨by k_is, by k_is, by k_is, by k_is, fun _ _ _ => by k_get⟩, ⟨by k_is, by k_is, by k_is, by k_is, fun _ _ _ => by k_get⟩, ⟨by k_is, by k_is, by k_is, by k_is, fun _ _ _ => by k_get⟩, (fun _ _ _ _ _ => bindK_of (by k_is) (fun s X => by first | exact BindsTo.of_eq rfl | exact binds_K X rfl (by k_is) rfl rfl rfl)), ⟨_, (fun _ _ _ => bindK_of (by k_is) (fun s X => by first | exact BindsTo.of_eq rfl | exact binds_K X rfl (by k_is) rfl rfl rfl))⟩, (fun _ _ _ _ _ => bindK_of (by k_is) (fun s X => by first | exact BindsTo.of_eq rfl | exact binds_K X rfl (by k_is) rfl rfl rfl)), (fun _ _ _ => bindK_of (by k_is) (fun s X => by first | exact BindsTo.of_eq rfl | exact binds_K X rfl (by k_is) rfl rfl rfl)), (fun _ _ _ => bindK_of (by k_is) (fun s X => by first | exact BindsTo.of_eq rfl | exact binds_K X rfl (by k_is) rfl rfl rfl))⟩
  · exact ⟨t2, h2, s2, c2, ⟨by k_is, by k_is, by k_is, by k_is, fun _ _ _ => by k_get⟩, ⟨by k_is, by k_is, by k_is, by k_is, fun _ _ _ => by k_get⟩, ⟨by k_is, by k_is, by k_is, by k_is, fun _ _ _ => by k_get⟩, ⟨by k_is, by k_is, by k_is, by k_is, fun _ _ _ => by k_get⟩, (fun _ _ _ _ _ => bindK_of (by k_is) (fun s X => by first | exact BindsTo.of_eq rfl | exact binds_K X rfl (by k_is) rfl rfl rfl)), ⟨_, (fun _ _ _ => bindK_of (by k_is) (fun s X => by first | exact BindsTo.of_eq rfl | exact binds_K X rfl (by k_is) rfl rfl rfl))⟩, (fun _ _ _ _ _ => bindK_of (by k_is) (fun s X => by first | exact BindsTo.of_eq rfl | exact binds_K X rfl (by k_is) rfl rfl rfl)), (fun _ _ _ => bindK_of (by k_is) (fun s X => by first | exact BindsTo.of_eq rfl | exact binds_K X rfl (by k_is) rfl rfl rfl)), (fun _ _ _ => bindK_of (by k_is) (fun s X => by first | exact BindsTo.of_eq rfl | exact binds_K X rfl (by k_is) rfl rfl rfl))⟩

theorem reg_CLb : True := by
  k_with_none
  k_with "MINE pj" => (first | with_reducible assumption | exact an0 (by with_reducible assumption) | exact an1 (by with_reducible assumption) | exact an2 (by with_reducible assumption) | exact an3 (by with_reducible assumption) | exact an4 (by with_reducible assumption) | exact an5 (by with_reducible assumption) | exact an6 (by with_reducible assumption) | exact an7 (by with_reducible assumption) | exact an8 (by with_reducible assumption) | exact an9 (by with_reducible assumption) | exact bn1 (by with_reducible assumption) | exact bn2 (by with_reducible assumption) | exact bn3 (by with_reducible assumption) | exact bn4 (by with_reducible assumption) | exact bn5 (by with_reducible assumption) | exact bn6 (by with_reducible assumption) | exact bn7 (by with_reducible assumption) | exact bn8 (by with_reducible assumption))
  k_with "MINE lt" => (first | walk_at "MINE pj" | (with_reducible refine Nat.lt_trans ?_ (by with_reducible assumption); walk_at "MINE lt"))
  k_with "MINE ne" => (with_reducible refine neN ?_; (try dsimp only); first | with_reducible assumption | (refine Ne.symm ?_; with_reducible assumption) | (refine Nat.ne_of_lt ?_; with_reducible assumption) | (refine Nat.ne_of_gt ?_; with_reducible assumption) | (simp only [*, ne_eq, not_false_eq_true]; done) | (refine Ne.symm ?_; (simp only [*, ne_eq, not_false_eq_true]; done)) | (refine Nat.ne_of_lt ?_; (simp only [*]; done)) | (refine Nat.ne_of_gt ?_; (simp only [*]; done)) | assumption | decide | (refine Nat.ne_of_gt ?_; walk_at "MINE lt") | (refine Nat.ne_of_lt ?_; walk_at "MINE lt") | lia | omega)
  k_with "MINE nes" => (repeat' (first | (refine And.intro ?_ ?_) | (with_reducible refine neN ?_; walk_at "MINE ne")))
  k_with "MINE om" => (first | with_reducible assumption | exact Nat.le_of_ble_eq_true rfl | exact an0 (by with_reducible assumption) | exact bn1 (by with_reducible assumption) | exact an1 (by with_reducible assumption) | exact Nat.lt_of_le_of_lt (Nat.le_add_right _ _) (by with_reducible assumption) | exact Int.lt_trans (by with_reducible assumption) (by decide) | exact Int.lt_trans (bn1 (by with_reducible assumption)) (by decide) | exact Int.lt_of_lt_of_le (by decide) (by with_reducible assumption) | exact Int.lt_of_lt_of_le (by decide) (an0 (by with_reducible assumption)) | exact Nat.le_trans (by with_reducible assumption) (by decide) | exact Int.le_of_lt (by with_reducible assumption) | exact Int.le_trans (by with_reducible assumption) (by decide) | exact Int.lt_of_le_of_lt (by with_reducible assumption) (by decide) | decide | (walk_at "MINE nes"; done) | lia | omega)
  k_with "MINE room" => (first | assumption | exact ArOk.down (by assumption) (by walk_at "MINE om"))
  k_with "call ref" => (k_here; (with_reducible show wpAny _ _ (call (Value.ref 700) _) _ _ _); (refine' next_use ?C_1 ?F_1 ?N_1 ?U_1 ?X_1 ?T_1 ?sc_1 ?hi_1 ?hn_1 ?k0_1 ?k1_1 ?m0_1 ?m1_1 ?d_1 ?_; (case C_1 => assumption); (case F_1 => k_asm); (case N_1 => k_asm); (case U_1 => k_updF); (case X_1 => k_asm); (case T_1 => k_asm); (case sc_1 => assumption); (case hi_1 => assumption); (case hn_1 => assumption); (case k0_1 => walk_at "MINE om"); (case k1_1 => walk_at "MINE om"); (case m0_1 => walk_at "MINE om"); (case m1_1 => walk_at "MINE om"); (case d_1 => exact ArOk.le (har_law _) (by decide)); k_whole; intro h'K tk'K r'K u1K u2K n'K F'K N'K r0K r1K; (try dsimp only at N'K)))
  k_with "exec For Name Call cons nil" => refine Hold.out ?_
  k_with "call ref" => (k_here; (with_reducible show wpAny _ _ (call (Value.ref 691) _) _ _ _); (refine' stnew_use ?C_3 ?F_3 ?N_3 ?X_3 ?T_3 ?d_3 ?_; (case C_3 => assumption); (case F_3 => k_asm); (case N_3 => k_asm); (case X_3 => k_asm); (case T_3 => k_asm); (case d_3 => exact ArOk.le (har_law _) (by decide)); k_whole; intro h'K tk'K x'K d'K ds'K de'K dv'K t1K t2K t3K t4K os'K oe'K ov'K F'K N'K e1K e2K e3K o1K o2K o3K l1K l2K l3K l4K l5K; (try k_lt l1K)))
  k_with "call ref" => (k_here; (refine' itnew_use ?C_4 ?ea_4 ?F_4 ?N_4 ?X_4 ?T_4 ?a0_4 ?a1_4 ?b0_4 ?b1_4 ?d_4 ?_; (case C_4 => assumption); (case ea_4 => exact rfl); (case F_4 => k_asm); (case N_4 => k_asm); (case X_4 => k_asm); (case T_4 => k_asm); (case a0_4 => walk_at "MINE om"); (case a1_4 => walk_at "MINE om"); (case b0_4 => walk_at "MINE om"); (case b1_4 => walk_at "MINE om"); (case d_4 => exact ArOk.le (har_law _) (by decide)); k_whole; intro h'K tk'K x'K d'K t1K t2K t3K t4K t5K t6K F'K N'K l1K l2K; (try k_lt l1K)))
  k_with "call ref" => (k_here; (refine' itnew_use (u3 := 0) ?C_5 ?ea_5 ?F_5 ?N_5 ?X_5 ?T_5 ?a0_5 ?a1_5 ?b0_5 ?b1_5 ?d_5 ?_; (case C_5 => assumption); (case ea_5 => exact rfl); (case F_5 => k_asm); (case N_5 => k_asm); (case X_5 => k_asm); (case T_5 => k_asm); (case a0_5 => walk_at "MINE om"); (case a1_5 => walk_at "MINE om"); (case b0_5 => walk_at "MINE om"); (case b1_5 => walk_at "MINE om"); (case d_5 => exact ArOk.le (har_law _) (by decide)); k_whole; intro h'K tk'K x'K d'K t1K t2K t3K t4K t5K t6K F'K N'K l1K l2K; (try k_lt l1K)))
  k_with "call ref" => (k_here; (with_reducible show wpAny _ _ (call (Value.ref 707) _) _ _ _); (refine' limsnew_use ?C_6 ?F_6 ?N_6 ?X_6 ?T_6 ?d_6 ?_; (case C_6 => assumption); (case F_6 => k_asm); (case N_6 => k_asm); (case X_6 => k_asm); (case T_6 => k_asm); (case d_6 => exact ArOk.le (har_law _) (by decide)); k_whole; intro h'K tk'K l'K a0K a1K a2K d0K d1K d2K t0K t1K t2K F'K N'K n1K; (try simp only [List.forall_mem_cons, List.not_mem_nil, false_implies, implies_true, and_true] at n1K)))
  k_with "MINE get" => first | (refine' Fr.keep ?fr_7 _ _ ?gt_7; (case fr_7 => k_asm); (case gt_7 => assumption)) | (refine' Fr.keep ?fr_7 _ _ (Below.stays ?kb_7 _ _ ?bt_7); (case fr_7 => k_asm); (case kb_7 => assumption); (case bt_7 => assumption)) | (refine' news_at ?nn_7 ?mm_7; (case nn_7 => k_asm); (case mm_7 => k_mem))
  k_with "subscriptTail" => (k_here; (with_reducible show wpAny _ _ (subscriptTail _ _ (Value.ref _) (Value.int _ _)) _ _ _); k_dflt (refine' lst_in ?l_8 ?a_8 ?b_8 ?v_8 ?_; (case l_8 => walk_at "MINE get"); (case a_8 => walk_at "MINE om"); (case b_8 => walk_at "MINE om"); (case v_8 => assumption); k_whole))
  k_with "MINE stays" => first | exact Below.stays (by assumption) | assumption
  k_with "getMethod ref" => (k_here; (refine' lim_meth ?M_10 ?F_10 ?X_10 ?B_10 ?I_10 ?_; (case M_10 => first | assumption | exact LimG.mT (by assumption) | exact LimG.mH (by assumption) | exact LimG.mS (by assumption) | exact LimG.mC (by assumption)); (case F_10 => k_asm); (case X_10 => k_asm); (case B_10 => walk_at "MINE stays"); (case I_10 => assumption); k_whole))
  k_with "callWith ref" => (k_here; (refine' callWith_KW ?k1_11 ?k2_11 ?k3_11 ?_; (case k1_11 => k_asm); (case k2_11 => first | exact (LimG.mT (by assumption)).k | exact (LimG.mH (by assumption)).k); (case k3_11 => exact rfl); k_whole))
  k_with "callWith ref" => (k_here; (refine' callWith_K ?k1_12 ?k2_12 ?_; (case k1_12 => k_asm); (case k2_12 => first | exact (LimG.mC (by assumption)).k | exact (LimG.mS (by assumption)).k | exact (LimG.mT (by assumption)).k); k_whole))
  k_with "call ref" => (k_here; (refine' lim_use ?LK_13 ?Z_13 ?KB_13 ?F_13 ?N_13 ?mt_13 ?m5_13 ?ms_13 ?me_13 ?mv_13 ?U1_13 ?U2_13 ?U3_13 ?U4_13 ?U5_13 ?D_13 ?hl_13 ?I_13 ?hen_13 ?hnow_13 ?hc0_13 ?hc1_13 ?hcc_13 ?hb_13 ?hd_13 ?_ ?hk_13; (case LK_13 => first | exact LimG.test (by assumption) | exact LimG.hit (by assumption) | exact LimG.stats (by assumption) | exact LimG.clear (by assumption)); (case hb_13 => first | exact LimG.bT (by assumption) _ _ _ _ _ | exact LimG.bH (by assumption) _ _ _ _ _ | exact LimG.bS (by assumption) _ _ _ | exact LimG.bC (by assumption) _ _ _); (case Z_13 => assumption); (case KB_13 => assumption); (case F_13 => k_asm); (case N_13 => k_asm); (case D_13 => assumption); (case mt_13 => k_mem); (case m5_13 => k_mem); (case ms_13 => k_mem); (case me_13 => k_mem); (case mv_13 => k_mem); (case U1_13 => k_updF); (case U2_13 => (intro xK; k_updF)); (case U3_13 => (intro xK yK; k_updF)); (case U4_13 => (intro xK yK zK; k_updF)); (case U5_13 => (intro xK yK zK uK; k_updF)); (case hl_13 => assumption); (case I_13 => assumption); (case hen_13 => assumption); (case hnow_13 => assumption); (case hc0_13 => walk_at "MINE om"); (case hc1_13 => walk_at "MINE om"); (case hcc_13 => assumption); (case hd_13 => walk_at "MINE room"); (case hk_13 => exact rfl); k_whole; intro h'K tk'K v'K O'K lg'K g2'K T'K F'K N'K B'K X'K P'K l'K D'K R'K; (try dsimp only [List.cons_append, List.nil_append] at N'K)))
  k_with "call ref" => (k_here; (with_reducible show wpAny _ _ (call (Value.ref 593) _) _ _ _); (refine' exp_use ?LK_14 ?Z_14 ?KB_14 ?F_14 ?N_14 ?mt_14 ?m5_14 ?ms_14 ?me_14 ?mv_14 ?U1_14 ?U2_14 ?U3_14 ?U4_14 ?U5_14 ?D_14 ?hnow_14 ?hcc_14 ?hd_14 ?_ ?hk_14; (case LK_14 => assumption); (case Z_14 => assumption); (case KB_14 => assumption); (case F_14 => k_asm); (case N_14 => k_asm); (case D_14 => assumption); (case mt_14 => k_mem); (case m5_14 => k_mem); (case ms_14 => k_mem); (case me_14 => k_mem); (case mv_14 => k_mem); (case U1_14 => k_updF); (case U2_14 => (intro xK; k_updF)); (case U3_14 => (intro xK yK; k_updF)); (case U4_14 => (intro xK yK zK; k_updF)); (case U5_14 => (intro xK yK zK uK; k_updF)); (case hnow_14 => assumption); (case hcc_14 => assumption); (case hd_14 => walk_at "MINE room"); (case hk_14 => exact rfl); k_whole; intro h'K tk'K O'K lg'K g2'K T'K F'K N'K B'K X'K P'K l'K D'K; (try dsimp only [List.cons_append, List.nil_append] at N'K)))
  k_with "call ref" => (k_here; (with_reducible show wpAny _ _ (call (Value.ref (fStats _)) _) _ _ _); (refine' stats_use ?LG_15 ?tw_15 ?Z_15 ?KB_15 ?F_15 ?N_15 ?mt_15 ?m5_15 ?ms_15 ?me_15 ?mv_15 ?U1_15 ?U2_15 ?U3_15 ?U4_15 ?U5_15 ?D_15 ?hl_15 ?I_15 ?hen_15 ?hnow_15 ?hcc_15 ?hd_15 ?_ ?hk_15; (case LG_15 => assumption); (case tw_15 => assumption); (case Z_15 => assumption); (case KB_15 => assumption); (case F_15 => k_asm); (case N_15 => k_asm); (case D_15 => assumption); (case mt_15 => k_mem); (case m5_15 => k_mem); (case ms_15 => k_mem); (case me_15 => k_mem); (case mv_15 => k_mem); (case U1_15 => k_updF); (case U2_15 => (intro xK; k_updF)); (case U3_15 => (intro xK yK; k_updF)); (case U4_15 => (intro xK yK zK; k_updF)); (case U5_15 => (intro xK yK zK uK; k_updF)); (case hl_15 => assumption); (case I_15 => assumption); (case hen_15 => assumption); (case hnow_15 => assumption); (case hcc_15 => assumption); (case hd_15 => walk_at "MINE room"); (case hk_15 => exact rfl); k_whole; refine Hold.out ?_))
  k_with "getAttr ref" => (k_here; (refine' get_tgW ?C_16 ?F_16 ?N_16 ?X_16 ?T_16 ?x_16 ?dx_16 ?a_16 ?ga_16 ?gk_16 ?h2_16 ?c_16 ?n_16 ?t_16 ?R_16 ?d_16 ?_; (case F_16 => k_asm); (case N_16 => k_asm); (case X_16 => k_asm); (case T_16 => k_asm); (case x_16 => k_mem); (case dx_16 => k_mem); (case a_16 => k_is); (case C_16 => assumption); (case ga_16 => k_is); (case gk_16 => k_is); (case h2_16 => k_is); (case c_16 => k_is); (case n_16 => k_is); (case t_16 => k_is); (case R_16 => exact rfl); (case d_16 => walk_at "MINE room"); k_whole; intro h'K tk'K F'K N'K; (try k_sweep)))
  k_with "eval Name" => (k_here; k_dflt (refine' nameX_L ?F_zn ?v_zn ?_ ?a_zn ?b_zn; (case F_zn => k_asm); (case a_zn => rfl); (case b_zn => rfl); (case v_zn => rfl); k_whole))
  trivial

theorem c_lawb (w : World) (CC : LCs (Mine.kmake.heap_1 w.params) PySem.Challenge.pw_jo0040_02 w) (hLoop : LoopC (Mine.kmake.heap_1 w.params) PySem.Challenge.pw_jo0040_02 w) (hc1 : ClkC1 (Mine.kmake.heap_1 w.params) PySem.Challenge.pw_jo0040_02 w) (hc2 : ClkC2 (Mine.kmake.heap_1 w.params) PySem.Challenge.pw_jo0040_02 w) (hsn : StNewC (Mine.kmake.heap_1 w.params) PySem.Challenge.pw_jo0040_02 w) (hln : LimsNewC (Mine.kmake.heap_1 w.params) PySem.Challenge.pw_jo0040_02 w) (hi1 : ItNewC (Mine.kmake.heap_1 w.params) PySem.Challenge.pw_jo0040_02 w 518 "LIMITER" (fun a l u1 u2 _ => [.int a u1, .int l u2])) (hi2 : ItNewC (Mine.kmake.heap_1 w.params) PySem.Challenge.pw_jo0040_02 w 501 "other" (fun a l u1 u2 u3 => [.int a u1, .int l u2, .str "other" u3])) : ∀ (p : Program) (loose : List Str) (mean : ExcName → Option Value) (mg mb : Str → Option Value) (g : Heap) (L scr : Addr) (s : Shared) (ob1 ob2 : Obj) (vs : List Value) (ns : List Int) (Q : Flow → Shared → Prop) (E : Value → Shared → Prop)
    (fa : Addr) (name qual : Str) (params : Arguments) (body : List Stmt) (scope : Scope) (dV kV doc pm cdv ct oc : Value) (an od : Option Addr) (osl : Array (Option Value)),
    (Mine.kmake.heap_1 w.params).lookup 728 = some ⟨oc, od, .func (fnOf name qual params body scope dV kV doc pm an cdv ct), osl⟩ → Fr g L s.heap (fun y => if y = "script" then some (.ref scr) else none) → News g L s.heap [(L + 1 + 1, ob1), (L + 1, ob2), (640, tabObj #[]), (588, tabObj #[]), (723, tabObj #[])] → ob1.data = .cell none → ob2.data = .cell none →
    (Mine.kmake.heap_1 w.params).In g → Top p loose mean mg mb g → Below callerA g [] g → CodeHd g 644 640 → CodeHd g 592 588 → CodeHd g 727 723 → g.IsList scr vs.toArray → IntsAre vs ns → ns.length ≤ 63 →
    ((@LT.lt Nat _ 640 L) ∧ (@LT.lt Nat _ 588 L) ∧ (@LT.lt Nat _ 723 L)) →
    (∀ h' tk', Fin3 g h' → Q (.ret (.bool true)) { s with heap := h', toks := tk' }) → PassesOwn (model PySem.Challenge.pw_jo0040_02 w) (callerA.deeper (envOfC qual scope L fa cdv)) (envOfC qual scope L fa cdv) E →
    wpAny (model PySem.Challenge.pw_jo0040_02 w) (callerA.deeper (envOfC qual scope L fa cdv)) (execs body (envOfC qual scope L fa cdv)) Q E s := by
  have hfill : (PySem.Challenge.rw_jo0040_02 = PySem.Challenge.rw_jo0040_02) ∧ (Mine.kmake.heap_1 = Mine.kmake.heap_1) := by k_fill; exact ⟨rfl, rfl⟩
  clear hfill
  intro p loose mean mg mb g L scr s ob1 ob2 vs ns Q E fa name qual params body scope dV kV doc pm cdv ct oc an od osl ho F N c1 c2 X T KB C1 C2 C3 hscr hI hns hlt hQ hE
  revert F N hE
  refine' lookup_same ?ho' ho ?_
  (case ho' => k_is)
  intro e
  cases e
  intro F N hE
  have ho' := ho
  have g1 : @Ne Nat 640 (L + 1) := Nat.ne_of_lt (Nat.lt_succ_of_lt hlt.1)
  have g2 : @Ne Nat 588 (L + 1) := Nat.ne_of_lt (Nat.lt_succ_of_lt hlt.2.1)
  have g3 : @Ne Nat 723 (L + 1) := Nat.ne_of_lt (Nat.lt_succ_of_lt hlt.2.2)
  have g4 : @Ne Nat 640 (L + 1 + 1) := Nat.ne_of_lt (Nat.lt_succ_of_lt (Nat.lt_succ_of_lt hlt.1))
  have g5 : @Ne Nat 588 (L + 1 + 1) := Nat.ne_of_lt (Nat.lt_succ_of_lt (Nat.lt_succ_of_lt hlt.2.1))
  have g6 : @Ne Nat 723 (L + 1 + 1) := Nat.ne_of_lt (Nat.lt_succ_of_lt (Nat.lt_succ_of_lt hlt.2.2))
  have g7 : @Ne Nat (L + 1 + 1) (L + 1) := Nat.succ_ne_self _
  have hnx := CC.nx
  have TR := topRead_of T
  (try k_fold)
  k_steps
  rename_i z1 z2 z3 z4 z5 z6 z7 z8 z9 z10 z11 z12 z13 z14 z15 z16 z17 z18 z19 z20 z21 z22 z23 z24 z25 z26 z27 z28 z29 z30 z31 z32 z33 z34 z35 z36 z37 z38 z39 z40 z41 z42 z43 z44 z45 z46 z47 z48 z49 z50 z51 z52 z53 z54 z55 z56 z57 z58 z59 z60 z61 z62 z63 z64 z65 z66 z67 z68 z69 z70 z71 z72 z73 z74 z75 z76 z77 z78 z79 z80 z81 z82 z83 z84 z85 z86 z87 z88 z89 z90 z91 z92 z93 z94 z95 z96 z97 z98 z99 z100 z101 z102 z103 z104 z105 z106 z107 z108 z109 z110 z111 z112 z113 z114 z115 z116 z117 z118 z119 z120 z121 z122 z123 z124 z125 z126 z127 z128 z129 z130 z131 z132 z133 z134 z135 z136 z137 z138 z139
  refine' Exists.elim (law_start (Y := ⟨⟨z53, z53, z54, z55, z56, z57, z39, z58, z59, z60, z61⟩, ⟨z92, z92, z93, ds'K, de'K, dv'K, z78, z94, z95, z96, z97⟩, z1, scr, z32⟩) (V := ⟨?vho_z, ?vno_z, tabObj #[], tabObj #[], z62, z63, z64, os'K, oe'K, ov'K⟩) (Ln := 1 + z18) (x := r'K) hE X T C1 C2 rfl rfl z139
    (two_nodup ?n1_z ?n2_z ?n3_z ?n4_z z73 z74 ?n5_z l4K l5K) (ids_ok z72 z73 z74 z68 z69 z70) (ids_ok l3K l4K l5K o1K o2K o3K) ?m_z ?ho_z ?no_z rfl rfl z65 z66 z67 e1K e2K e3K ?a1_z ?d1_z ?a2_z ?d2_z ?f1_z ?f2_z ?k1_z ?k2_z ?b1_z ?b2_z r0K r1K) ?go_z
  case m_z =>
    intro q hq
    rcases Two.mem_mu.mp hq with rfl | rfl | rfl | rfl | rfl | rfl | rfl | rfl | rfl | rfl <;> k_mem
  case ho_z => exact ⟨_, _, rfl⟩
  case no_z => exact ⟨_, _, rfl⟩
  case n1_z => exact z3.2.2.1
  case n2_z => exact z3.2.2.2.1
  case n3_z => exact z34.1
  case n4_z => show @LT.lt Nat _ z32 z55; walk_at "MINE lt"
  case n5_z => show @LT.lt Nat _ z57 ds'K; walk_at "MINE lt"
  case a1_z => k_mem
  case d1_z => k_mem
  case a2_z => k_mem
  case d2_z => k_mem
  case f1_z => exact ⟨_, _, _, _, by k_mem⟩
  case f2_z => exact ⟨_, _, _, _, by k_mem⟩
  case b1_z => walk_at "MINE om"
  case b2_z => walk_at "MINE om"
  case k1_z =>
    intro fz hin base t u n0 kg kf hnl
    exact hc1 p loose mg mb base z39 z40 (L + 1 + 1) z32 _ _ _ _ _ _ t u n0 z36 (X.keeps kg) (TR.keeps kg) (kf (z39, _) (hin.s _ (by k_mem) rfl)) (code_of (kf (z40, z41) (hin.s _ (by k_mem) (tg_code z47 z48))) z47 z48) (kf (L + 1 + 1, z36) (hin.s _ (by k_mem) (tg_cell z37))) z37 hnl
  case k2_z =>
    intro fz hin base t u n0 kg kf hnl
    exact hc2 p loose mg mb base z78 z79 (L + 1 + 1) (L + 1) z32 _ _ _ _ _ _ _ _ _ _ t _ u _ n0 z36 z29 (X.keeps kg) (TR.keeps kg) (kf (z78, _) (hin.s _ (by k_mem) rfl)) (code_of (kf (z79, z80) (hin.s _ (by k_mem) (tg_code z86 z87))) z86 z87) (kf (L + 1 + 1, z36) (hin.s _ (by k_mem) (tg_cell z37))) z37 (kf (L + 1, z29) (hin.s _ (by k_mem) (tg_cell z30))) z30 hnl
  case go_z =>
    intro fz h
    obtain ⟨hin, G, W, NL⟩ := h
    refine ⟨?_⟩
    have ZZ : LZ w fz L ⟨⟨z53, z53, z54, z55, z56, z57, z39, z58, z59, z60, z61⟩, ⟨z92, z92, z93, ds'K, de'K, dv'K, z78, z94, z95, z96, z97⟩, z1, scr, z32⟩ z8 (1 + z18) (60 * (1 + z18) * (1 + r'K)) z104 l'K z125 x'K (fun k => if k = 0 then z105 else if k = 1 then z106 else z107) (fun k => if k = 0 then a0K else if k = 1 then a1K else a2K) :=
      ⟨⟨z36, hin.s _ (by k_mem) (tg_cell z37), z37⟩, ⟨z29, _, hin.s _ (by k_mem) (tg_cell z30), z30⟩, ⟨⟨0, hin.s _ (by k_mem) rfl⟩, (by
        rintro _ (rfl | rfl | rfl)
        · exact ⟨_, _, hin.s _ (by k_mem) rfl, hin.s _ (by k_mem) rfl⟩
        · exact ⟨_, _, hin.s _ (by k_mem) rfl, hin.s _ (by k_mem) rfl⟩
        · exact ⟨_, _, hin.s _ (by k_mem) rfl, hin.s _ (by k_mem) rfl⟩)⟩, ⟨⟨0, hin.s _ (by k_mem) rfl⟩, (by
        rintro _ (rfl | rfl | rfl)
        · exact ⟨_, _, hin.s _ (by k_mem) rfl, hin.s _ (by k_mem) rfl⟩
        · exact ⟨_, _, hin.s _ (by k_mem) rfl, hin.s _ (by k_mem) rfl⟩
        · exact ⟨_, _, hin.s _ (by k_mem) rfl, hin.s _ (by k_mem) rfl⟩)⟩, ⟨⟨_, _, _, _, _, _, _, hin.s _ (by k_mem) rfl, hin.s _ (by k_mem) rfl⟩⟩, ⟨⟨_, _, _, _, _, _, _, hin.s _ (by k_mem) rfl, hin.s _ (by k_mem) rfl⟩⟩, ⟨_, hin.s _ (by k_mem) rfl⟩⟩
    refine hLoop p loose mean mg mb g L _ _ _ fz z8 (1 + z18) r'K _ _ z104 l'K z125 x'K (fun k => if k = 0 then z105 else if k = 1 then z106 else z107) (fun k => if k = 0 then a0K else if k = 1 then a1K else a2K) _ vs ns _ E _ _ _ _ _ _ _ _ _ _ _ _ _ _ _ _ _ ho' rfl G W ZZ z138 NL ⟨rfl, rfl, rfl, rfl, rfl, rfl, rfl, rfl, rfl⟩ CC z12 z13 (by walk_at "MINE om") (by walk_at "MINE om") r0K r1K hscr hI hns ?_ hE
    · intro h' tk' hfin
      (try k_fold)
      k_steps
      exact hQ _ _ hfin

theorem reg_CLoop : True := by
  k_with_none
  k_with "MINE pj" => (first | with_reducible assumption | exact an0 (by with_reducible assumption) | exact an1 (by with_reducible assumption) | exact an2 (by with_reducible assumption) | exact an3 (by with_reducible assumption) | exact an4 (by with_reducible assumption) | exact an5 (by with_reducible assumption) | exact an6 (by with_reducible assumption) | exact an7 (by with_reducible assumption) | exact an8 (by with_reducible assumption) | exact an9 (by with_reducible assumption) | exact bn1 (by with_reducible assumption) | exact bn2 (by with_reducible assumption) | exact bn3 (by with_reducible assumption) | exact bn4 (by with_reducible assumption) | exact bn5 (by with_reducible assumption) | exact bn6 (by with_reducible assumption) | exact bn7 (by with_reducible assumption) | exact bn8 (by with_reducible assumption))
  k_with "MINE lt" => (first | walk_at "MINE pj" | (with_reducible refine Nat.lt_trans ?_ (by with_reducible assumption); walk_at "MINE lt"))
  k_with "MINE ne" => (with_reducible refine neN ?_; (try dsimp only); first | with_reducible assumption | (refine Ne.symm ?_; with_reducible assumption) | (refine Nat.ne_of_lt ?_; with_reducible assumption) | (refine Nat.ne_of_gt ?_; with_reducible assumption) | (simp only [*, ne_eq, not_false_eq_true]; done) | (refine Ne.symm ?_; (simp only [*, ne_eq, not_false_eq_true]; done)) | (refine Nat.ne_of_lt ?_; (simp only [*]; done)) | (refine Nat.ne_of_gt ?_; (simp only [*]; done)) | assumption | decide | (refine Nat.ne_of_gt ?_; walk_at "MINE lt") | (refine Nat.ne_of_lt ?_; walk_at "MINE lt") | lia | omega)
  k_with "MINE nes" => (repeat' (first | (refine And.intro ?_ ?_) | (with_reducible refine neN ?_; walk_at "MINE ne")))
  k_with "MINE om" => (first | with_reducible assumption | exact Nat.le_of_ble_eq_true rfl | exact Nat.le_trans (by with_reducible assumption) (by decide) | lia | omega)
  k_with "MINE get" => first | (refine' Fr.keep ?fr_0 _ _ ?gt_0; (case fr_0 => k_asm); (case gt_0 => assumption)) | (refine' Fr.keep ?fr_0 _ _ (Below.stays ?kb_0 _ _ ?bt_0); (case fr_0 => k_asm); (case kb_0 => assumption); (case bt_0 => assumption)) | (refine' news_at ?nn_0 ?mm_0; (case nn_0 => k_asm); (case mm_0 => k_mem))
  k_with "subscriptTail" => (k_here; (with_reducible show wpAny _ _ (subscriptTail _ _ (Value.ref _) (Value.int _ _)) _ _ _); k_dflt (refine' lst_in ?l_1 ?a_1 ?b_1 ?v_1 ?_; (case l_1 => walk_at "MINE get"); (case a_1 => walk_at "MINE om"); (case b_1 => walk_at "MINE om"); (case v_1 => assumption); k_whole))
  k_with "MINE nm" => ((try dsimp only); first | with_reducible assumption | exact Two.notMut (by with_reducible assumption) | exact Two.notMutA (by with_reducible assumption) | exact Two.notMut (bn1 (by with_reducible assumption)) | exact Two.notMut (bn2 (by with_reducible assumption)) | exact Two.notMut (bn3 (by with_reducible assumption)) | exact Two.notMut (bn4 (by with_reducible assumption)) | exact Two.notMut (bn5 (by with_reducible assumption)) | exact Two.notMut (bn6 (by with_reducible assumption)) | exact Two.notMut2 (an0 (by with_reducible assumption)) (bn1 (by with_reducible assumption)) | exact Two.notMut2 (an0 (by with_reducible assumption)) (bn2 (by with_reducible assumption)) | exact Two.notMut2 (an0 (by with_reducible assumption)) (bn3 (by with_reducible assumption)) | exact Two.notMut2 (by with_reducible assumption) (bn1 (by with_reducible assumption)) | exact Two.notMut2 (by with_reducible assumption) (bn2 (by with_reducible assumption)) | exact Two.notMut2 (by with_reducible assumption) (bn3 (by with_reducible assumption)) | (((repeat cases (by with_reducible assumption : _ ∧ _)); first | exact Two.notMut (by with_reducible assumption) | exact Two.notMut2 (by with_reducible assumption) (by with_reducible assumption))))
  k_with "MINE tm" => (first | exact TmA.nil | (apply TmA.cons; (· walk_at "MINE nm"); (· walk_at "MINE tm")) | (apply TmA.skip; walk_at "MINE tm"))
  k_with "MINE mem" => (first | exact List.Mem.head _ | exact Two.inF (by with_reducible assumption) | (refine' List.Mem.tail _ ?_; walk_at "MINE mem"))
  k_with "call ref" => (k_here; (with_reducible show wpAny _ _ (call (Value.ref 700) _) _ _ _); (refine' next_law ?C_5 ?G_5 ?W_5 ?F_5 ?N_5 ?TP_5 ?scr_5 ?hI_5 ?hns_5 ?k0_5 ?k1_5 ?m0_5 ?m1_5 ?har_5 ?_; (case C_5 => exact LCs.nx (by assumption)); (case G_5 => assumption); (case W_5 => assumption); (case F_5 => k_asm); (case N_5 => k_asm); (case TP_5 => walk_at "MINE tm"); (case scr_5 => assumption); (case hI_5 => assumption); (case hns_5 => assumption); (case k0_5 => walk_at "MINE om"); (case k1_5 => walk_at "MINE om"); (case m0_5 => decide); (case m1_5 => decide); (case har_5 => exact ArOk.le (har_law _) (by decide)); k_whole; intro h'K tk'K r'K u1K V'K F'K N'K W'K r0K r1K; (try dsimp only [List.cons_append, List.nil_append] at N'K); (try k_sweep)))
  k_with "eval Name" => (k_here; k_dflt (refine' nameX_C ?N_6 ?c_6 ?m_6 ?d_6 ?_ ?a_6 ?b_6 ?e_6; (case N_6 => k_asm); (case a_6 => rfl); (case b_6 => rfl); (case e_6 => decide); (case c_6 => exact rfl); (case m_6 => walk_at "MINE mem"); (case d_6 => assumption); k_whole))
  k_with "subscriptTail" => (k_here; (with_reducible show wpAny _ _ (subscriptTail _ _ (Value.ref (Two.nl _)) (Value.int _ _)) _ _ _); (refine' now_get ?W_7 ?N_7 ?TP_7 ?_; (case W_7 => assumption); (case N_7 => k_asm); (case TP_7 => walk_at "MINE tm"); k_whole; intro u1K))
  k_with "setItem ref int" => (refine Hold.out ?_)
  k_with "exec For" => (k_here; refine' for_F ?F_9 ?x_9 ?p_9 ?_ ?s_9 ?E_9; (case F_9 => k_asm); (case x_9 => rfl); (case p_9 => rfl); (case s_9 => (intro _; rfl)); (case E_9 => first | assumption | passes_own))
  k_with "pyIter ref" => refine Hold.out ?_
  k_with "MINE lb" => exact ⟨by assumption, by assumption, by assumption, by assumption, by assumption, by assumption, by walk_at "MINE om", by walk_at "MINE om"⟩
  k_with "MINE news" => (first | exact List.Mem.head _ | (refine' List.Mem.tail _ ?_; walk_at "MINE news"))
  k_with "MINE stranger" => (first | (refine' Str2.s1 ?CC_13 ?ks_13 ?I_13 ?W_13 ?TP_13 ?p_13 ?q_13; (case CC_13 => assumption); (case ks_13 => assumption); (case I_13 => exact LZ.i2 (by assumption)); (case W_13 => assumption); (case TP_13 => walk_at "MINE tm"); (case p_13 => walk_at "MINE news"); (case q_13 => walk_at "MINE nm")) | (refine' Str2.s2 ?CC2_13 ?ks2_13 ?I2_13 ?W2_13 ?TP2_13 ?p2_13 ?q2_13; (case CC2_13 => assumption); (case ks2_13 => assumption); (case I2_13 => exact LZ.i2 (by assumption)); (case W2_13 => assumption); (case TP2_13 => walk_at "MINE tm"); (case p2_13 => walk_at "MINE news"); (case q2_13 => walk_at "MINE nm")) | (refine' Str2.s3 ?CC3_13 ?ks3_13 ?hn3_13 ?i13_13 ?i23_13 ?o13_13 ?o23_13 ?p3_13 ?q3_13 ?vs3_13; (case CC3_13 => assumption); (case ks3_13 => assumption); (case vs3_13 => assumption); (case hn3_13 => assumption); (case i13_13 => walk_at "MINE news"); (case i23_13 => walk_at "MINE news"); (case o13_13 => walk_at "MINE nm"); (case o23_13 => walk_at "MINE nm"); (case p3_13 => walk_at "MINE news"); (case q3_13 => assumption)))
  k_with "subscriptTail" => (k_here; (refine' lim_pick ?I_14 ?N_14 ?TP_14 ?hk_14 ?_; (case I_14 => exact LZ.l2 (by assumption)); (case N_14 => k_asm); (case TP_14 => walk_at "MINE tm"); (case hk_14 => first | assumption | (have := (by assumption : Hold True); walk_at "MINE om")); k_whole; intro hk'K))
  k_with "getMethod ref" => (k_here; (refine' law_meth ?M_15 ?F_15 ?X_15 ?N_15 ?TP_15 ?hk_15 ?I_15 ?_; (case M_15 => first | exact LimG.mT (LCs.lg (by assumption) _ (by assumption)) | exact LimG.mH (LCs.lg (by assumption) _ (by assumption)) | exact LimG.mC (LCs.lg (by assumption) _ (by assumption)) | exact LimG.mS (LCs.lg (by assumption) _ (by assumption))); (case F_15 => k_asm); (case X_15 => assumption); (case N_15 => k_asm); (case TP_15 => walk_at "MINE tm"); (case hk_15 => assumption); (case I_15 => exact LZ.l2 (by assumption)); k_whole))
  k_with "callWith ref" => (k_here; (refine' callWith_KW ?k1_16 ?k2_16 ?k3_16 ?_; (case k1_16 => k_asm); (case k2_16 => exact (LimG.mH (LCs.lg (by assumption) _ (by assumption))).k); (case k3_16 => exact rfl); k_whole))
  k_with "callWith ref" => (k_here; (refine' callWith_K ?k1_17 ?k2_17 ?_; (case k1_17 => k_asm); (case k2_17 => first | exact (LimG.mC (LCs.lg (by assumption) _ (by assumption))).k | exact (LimG.mS (LCs.lg (by assumption) _ (by assumption))).k | exact (LimG.mT (LCs.lg (by assumption) _ (by assumption))).k); k_whole))
  k_with "call ref" => (k_here; (refine' str_law ?LK_18 ?ho_18 ?CC_18 ?B_18 ?G_18 ?W_18 ?R_18 ?I2_18 ?hk_18 ?F_18 ?N_18 ?TP_18 ?I_18 ?c0_18 ?c1_18 ?hb_18 ?_; (case LK_18 => first | exact LimG.test (LCs.lg (by assumption) _ (by assumption)) | exact LimG.hit (LCs.lg (by assumption) _ (by assumption)) | exact LimG.clear (LCs.lg (by assumption) _ (by assumption)) | exact LimG.stats (LCs.lg (by assumption) _ (by assumption))); (case ho_18 => first | exact fun _ _ _ _ _ _ => off_test | exact fun _ _ _ _ _ _ => off_hit | exact fun _ _ _ _ _ _ => off_clear); (case CC_18 => assumption); (case G_18 => assumption); (case W_18 => assumption); (case R_18 => assumption); (case I2_18 => exact LZ.l2 (by assumption)); (case hb_18 => first | exact LimG.bH (LCs.lg (by assumption) _ (by assumption)) _ _ _ _ _ | exact LimG.bC (LCs.lg (by assumption) _ (by assumption)) _ _ _ | exact LimG.bS (LCs.lg (by assumption) _ (by assumption)) _ _ _ | exact (LimG.bT1 (LCs.lg (by assumption) _ (by assumption))).choose_spec _ _ _); (case hk_18 => assumption); (case B_18 => walk_at "MINE lb"); (case F_18 => k_asm); (case N_18 => k_asm); (case TP_18 => walk_at "MINE tk"); (case I_18 => walk_at "MINE stranger"); (case c0_18 => decide); (case c1_18 => decide); k_whole; intro h'K tk'K v'K V'K lg'K σ' F'K N'K W'K R'K; (try dsimp only [List.cons_append, List.nil_append] at N'K); (try k_sweep)))
  k_with "MINE tk" => (first | exact TmA.nil | (apply TmA.cons; (· (dsimp only; with_reducible assumption)); (· walk_at "MINE tk")) | (apply TmA.skip; walk_at "MINE tk"))
  k_with "MINE strs" => (first | exact StrsAre.nil | (apply StrsAre.cons; walk_at "MINE strs"))
  k_with "subscriptTail" => (k_here; (refine' pick2 ?N_21 ?TP_21 ?l_21 ?a_21 ?b_21 ?sa_21 ?sb_21 ?oa_21 ?ob_21 ?hn_21 ?_; (case N_21 => k_asm); (case TP_21 => walk_at "MINE tk"); (case l_21 => walk_at "MINE news"); (case a_21 => walk_at "MINE news"); (case b_21 => walk_at "MINE news"); (case sa_21 => walk_at "MINE strs"); (case sb_21 => walk_at "MINE strs"); (case oa_21 => walk_at "MINE nm"); (case ob_21 => walk_at "MINE nm"); (case hn_21 => walk_at "MINE om"); k_whole; intro tpK vsK N'K ho'K hs'K; (try dsimp only [List.cons_append, List.nil_append] at N'K)))
  k_with "call ref" => (k_here; (with_reducible show wpAny _ _ (call (Value.ref 721) _) _ _ _); (refine' step1 ?CC_22 ?B_22 ?G_22 ?W_22 ?I1_22 ?hk_22 ?hn_22 ?ks_22 ?F_22 ?N_22 ?TP_22 ?I_22 ?tp_22 ?tm_22 ?vs_22 ?c0_22 ?c1_22 ?dd_22 ?_; (case CC_22 => assumption); (case G_22 => assumption); (case W_22 => assumption); (case I1_22 => exact LZ.l1 (by assumption)); (case ks_22 => assumption); (case B_22 => walk_at "MINE lb"); (case hk_22 => assumption); (case F_22 => k_asm); (case N_22 => k_asm); (case TP_22 => walk_at "MINE tk"); (case I_22 => exact LZ.i1 (by assumption)); (case tp_22 => walk_at "MINE news"); (case tm_22 => assumption); (case vs_22 => assumption); (case hn_22 => assumption); (case c0_22 => walk_at "MINE om"); (case c1_22 => walk_at "MINE om"); (case dd_22 => assumption); k_whole; intro h'K tk'K V'K lg'K F'K N'K W'K; (try dsimp only [List.cons_append, List.nil_append] at N'K); (try k_sweep)))
  k_with "call ref" => (k_here; (with_reducible show wpAny _ _ (call (Value.ref 721) _) _ _ _); (refine' step2 ?CC_23 ?B_23 ?G_23 ?W_23 ?R_23 ?I2_23 ?hk_23 ?hn_23 ?ks_23 ?F_23 ?N_23 ?TP_23 ?I_23 ?tp_23 ?tm_23 ?vs_23 ?c0_23 ?c1_23 ?dd_23 ?_; (case CC_23 => assumption); (case G_23 => assumption); (case W_23 => assumption); (case R_23 => assumption); (case I2_23 => exact LZ.l2 (by assumption)); (case ks_23 => assumption); (case B_23 => walk_at "MINE lb"); (case hk_23 => assumption); (case F_23 => k_asm); (case N_23 => k_asm); (case TP_23 => walk_at "MINE tk"); (case I_23 => exact LZ.i2 (by assumption)); (case tp_23 => walk_at "MINE news"); (case tm_23 => assumption); (case vs_23 => assumption); (case hn_23 => assumption); (case c0_23 => walk_at "MINE om"); (case c1_23 => walk_at "MINE om"); (case dd_23 => assumption); k_whole; intro h'K tk'K V'K lg'K σ1' σ2' F'K N'K W'K R'K; (try dsimp only [List.cons_append, List.nil_append] at N'K); (try k_sweep)))
  k_with "compareOp NotEq" => (refine' vne ?_)
  k_with "call builtin:isinstance" => (refine' visb ?_; intro tk'K)
  k_with "call ref" => (k_here; (with_reducible show wpAny _ _ (call (Value.ref 501) _) _ _ _); (refine' itnew_use ?C_26 ?ea_26 ?F_26 ?N_26 ?X_26 ?T_26 ?a0_26 ?a1_26 ?b0_26 ?b1_26 ?d_26 ?_; (case C_26 => exact LCs.i3 (by assumption)); (case ea_26 => exact rfl); (case F_26 => k_asm); (case N_26 => k_asm); (case X_26 => k_asm); (case T_26 => k_asm); (case a0_26 => walk_at "MINE om"); (case a1_26 => walk_at "MINE om"); (case b0_26 => walk_at "MINE om"); (case b1_26 => walk_at "MINE om"); (case d_26 => exact ArOk.le (har_law _) (by decide)); k_whole; intro h'K tk'K x'K d'K t1K t2K t3K t4K t5K t6K F'K N'K l1K l2K; (try k_lt l1K)))
  k_with "call ref" => (k_here; (with_reducible show wpAny _ _ (call (Value.ref 714) _) _ _ _); (refine' stats1 ?CC_27 ?B_27 ?G_27 ?W_27 ?I1_27 ?hk_27 ?hn_27 ?ks_27 ?F_27 ?N_27 ?TP_27 ?I_27 ?tp_27 ?tm_27 ?vs_27 ?_; (case CC_27 => assumption); (case G_27 => assumption); (case W_27 => assumption); (case I1_27 => exact LZ.l1 (by assumption)); (case ks_27 => assumption); (case B_27 => walk_at "MINE lb"); (case hk_27 => assumption); (case F_27 => k_asm); (case N_27 => k_asm); (case TP_27 => walk_at "MINE tk"); (case I_27 => exact LZ.i1 (by assumption)); (case tp_27 => walk_at "MINE news"); (case tm_27 => assumption); (case vs_27 => assumption); (case hn_27 => assumption); k_whole; intro h'K tk'K V'K lg'K ttK trK w1K w2K w3K σ1' l3'K r3'K q3'K e1'K F'K N'K o1K o2K W'K qbK; (try dsimp only [List.cons_append, List.nil_append] at N'K); (try k_sweep)))
  k_with "call ref" => (k_here; (with_reducible show wpAny _ _ (call (Value.ref 714) _) _ _ _); (refine' stats2 ?CC_28 ?B_28 ?G_28 ?W_28 ?e1_28 ?R_28 ?I2_28 ?hk_28 ?hn_28 ?ks_28 ?F_28 ?N_28 ?TP_28 ?I_28 ?tp_28 ?tm_28 ?vs_28 ?_; (case CC_28 => assumption); (case G_28 => assumption); (case W_28 => assumption); (case e1_28 => assumption); (case R_28 => assumption); (case I2_28 => exact LZ.l2 (by assumption)); (case ks_28 => assumption); (case B_28 => walk_at "MINE lb"); (case hk_28 => assumption); (case F_28 => k_asm); (case N_28 => k_asm); (case TP_28 => walk_at "MINE tk"); (case I_28 => exact LZ.i2 (by assumption)); (case tp_28 => walk_at "MINE news"); (case tm_28 => assumption); (case vs_28 => assumption); (case hn_28 => assumption); k_whole; intro h'K tk'K V'K lg'K ttK trK w1K w2K w3K σ2' F'K N'K o1K o2K W'K R'K; (try dsimp only [List.cons_append, List.nil_append] at N'K); (try k_sweep)))
  k_with "assign Tuple" => (k_here; (with_reducible show wpAny _ _ (assign (Expr.Tuple _ _ _) _ (Value.ref _)) _ _ _); k_dflt (refine' unpackN_ ?k1_29 ?k2_29 ?k3_29 ?k4_29 ?k5_29 ?k6_29 ?_; (case k1_29 => k_asm); (case k2_29 => k_asm); (case k3_29 => kun_tup); (case k4_29 => exact rfl); (case k5_29 => exact rfl); (case k6_29 => exact rfl); k_whole); intro h'K F'K N'K; (try k_sweep))
  k_with "compareOp NotEq int int" => (refine' ine_self ?_)
  k_with "binaryOp Mult int int" => (k_here; (first | refine PyProof.Rows.mul_int ?_ (hm := IntMulOk.of_left (intBits_le_64 (by walk_at "MINE om") (by walk_at "MINE om"))) | refine PyProof.Rows.mul_int ?_ (hm := IntMulOk.of_right (intBits_le_64 (by walk_at "MINE om") (by walk_at "MINE om")))))
  k_with "binaryOp Mult int int" => (k_here; (first | refine PyProof.Rows.mul_int ?_ (hm := mul_60) | refine PyProof.Rows.mul_int ?_ (hm := mul_q (by assumption))))
  k_with "execs nil" => (have hq := (by assumption : Hold (2 = 2)); refine Hold.out ?_)
  k_with "exec Return some" => (have hq := (by assumption : Hold (2 = 2)); refine Hold.out ?_)
  k_with "eval Name" => (k_here; k_dflt (refine' nameX_L ?F_zn ?v_zn ?_ ?a_zn ?b_zn; (case F_zn => k_asm); (case a_zn => rfl); (case b_zn => rfl); (case v_zn => rfl); k_whole))
  trivial

theorem c_loop (w : World) : LoopC (Mine.kmake.heap_1 w.params) PySem.Challenge.pw_jo0040_02 w := by
  have hfill : (PySem.Challenge.rw_jo0040_02 = PySem.Challenge.rw_jo0040_02) ∧ (Mine.kmake.heap_1 = Mine.kmake.heap_1) := by k_fill; exact ⟨rfl, rfl⟩
  clear hfill
  intro p loose mean mg mb g L s Y V fz am Ln x ua ul sec min it ot la lb m vs ns Q E fa name qual params body scope dV kV doc pm cdv ct oc an od osl st ho hst G W Z F N M CC am0 am1 Ln0 Ln1 x0 x1 hscr hI hns hQ hE
  revert F N W G hE
  refine' fields_k ?ho' ?hs' ho hst ?_
  (case ho' => k_is)
  (case hs' => exact rfl)
  clear ho hst
  rintro rfl rfl rfl rfl
  intro G W F N hE
  have X := G.X
  have T := topRead_of G.T
  have ks := ksL am0 am1 (by walk_at "MINE om") Ln1
  have M0 := M
  rw [M.map] at F
  (try k_fold)
  k_steps
  refine ⟨?_⟩
  rename_i hrg Fa Na ka
  rw [← M0.map] at Fa
  obtain ⟨q1, q2⟩ := rng_ok (r := 1 + r'K) (by walk_at "MINE om") (by walk_at "MINE om")
  refine for_rng (LJ PySem.Challenge.pw_jo0040_02 w Y fz am Ln x ua ul sec min it ot) rfl hrg q1 q2 Fa Na ⟨⟨_, _, _, _, _, _, rfl, by assumption, R2.init, by walk_at "MINE om", by walk_at "MINE om", by walk_at "MINE om", by walk_at "MINE om"⟩, M0⟩ ?turn ?done
  case done =>
    intro m1 n1 h1 tk1 hJ1 F1 N1
    obtain ⟨V1, lg1, k1, t1, σ1, σ2, rfl, W1, _⟩ := hJ1.ex
    exact hQ _ _ (fin3 F1 N1 W1 Z.tb)
  clear Fa Na ka hrg q2 hQ
  intro i ti m₁ news₁ h₁ tk₁ I oI hi hJ hoff F₁ N₁
  obtain ⟨V₁, lg, k, t, σ1, σ2, rfl, W₁, R, t0, t1, k0, k1⟩ := hJ.ex
  have M₁ := hJ.m
  change Fr g L _ _ at F₁
  change News g L _ _ at N₁
  obtain ⟨fz', HT, G', W', Z', N'⟩ := turn_in (pre := []) G W₁ Z N₁ hoff
  clear hoff hJ G W₁ Z N₁ W
  obtain ⟨ocn, zcn, zcn'⟩ := Z'.cn
  obtain ⟨oca, uca, zca, zca'⟩ := Z'.ca
  simp only [List.nil_append] at N'
  rw [M₁.map] at F₁
  have hin : i < 8 := by walk_at "MINE om"
  clear hi q1
  (try k_fold)
  k_steps
  refine ⟨?_⟩
  have hop := hop_ok r0K r1K Ln0 Ln1
  generalize [0, 1, Ln, Ln - 1, 2 * Ln].getD r'K.toNat 0 = hp at hop ⊢
  have hah := a_nonneg (L := Ln) (x := x) (by walk_at "MINE om") x0
  have hah2 : 60 * Ln * (1 + x) ≤ 5000 := by
    have h1 : 60 * Ln * (1 + x) ≤ 420 * (1 + x) := Int.mul_le_mul_of_nonneg_right (by walk_at "MINE om") (by walk_at "MINE om")
    walk_at "MINE om"
  have hti : t + hp ≤ 8 + 14 * (↑(i + 1) : Int) := by walk_at "MINE om"
  have htl : Ln ≤ t + hp := by walk_at "MINE om"
  (refine' now_set (t2' := 60 * (t + hp) + 60 * Ln * (1 + x)) G'.nd ?W_y ?F_y ?N_y ?TP_y ?b1_y ?b2_y ?_; (case W_y => assumption); (case F_y => k_asm); (case N_y => k_asm); (case TP_y => exact TmA.skip TmA.nil); (case b1_y => walk_at "MINE om"); (case b2_y => walk_at "MINE om"); intro h₂ V₂ F₂ N₂ W₂; (try dsimp only [List.cons_append, List.nil_append] at N₂))
  clear W' W'K F'K N'K hop
  generalize t + hp = t' at *
  k_steps
  rename_i kd ukd V0 W0 kd0 kd1 x1 x2 x3 x4 nm unm x5 W1 nm0 nm1 x6 x7 x8 x9 x10 x11 x12 x13 x14 x15 x16 mi mvs mio mis x17 x18 x19 x20 x21 x22 x23 x24 x25 x26 x27 x28 x29 x30 x31 dd udd x32 W2 dd0 dd1 x33 x34 x35 x36 x37 uco hx Fx Nx
  clear W₂ W0 W1 W2 x10 x13 x16 x21 x24 x27 x37
  have hco := cost_ok r0K r1K am0 am1
  generalize [1, 1, 2, 0, am, am + 1].getD r'K.toNat 0 = co at *
  have hkd : kd = 0 ∨ kd = 1 ∨ kd = 2 := by walk_at "MINE om"
  have hnm : nm = 0 ∨ nm = 1 := by walk_at "MINE om"
  have Nx' : News g L hx ((tpK, tupO vsK) :: (mi, tupO mvs) :: Y.led V'K lg fz') := fun q hq => Nx q (.tail _ hq)
  clear Nx kd0 kd1 nm0 nm1 x2 x4 x7 x18 x29 x31 x34 M0 M r0K r1K t0
  have hgo : Hold True := ⟨trivial⟩
  change StrsAre mvs (mineN nm) at mis
  change StrsAre vsK (yourN nm) at hs'K
  k_steps
  · exact absurd (by assumption) (by rw [isb_eq]; decide)
  refine ⟨?_⟩
  rename_i hr2 Fa2 Na2 ka2
  have hfm := fmod_bnd (x := dd) (e := 2) (by decide)
  obtain ⟨q3, q4⟩ := rng_ok (r := 3 * dd.fmod 2) (by walk_at "MINE om") (by walk_at "MINE om")
  refine for_rng (LJ2 PySem.Challenge.pw_jo0040_02 w Y fz' [(tpK, tupO vsK), (mi, tupO mvs)] am Ln x ua ul sec min it ot mi tpK (k + 1 + 1 + 1 + 1 + 1 + 1) t' (i + 1) ((i + 1) * 3)) rfl hr2 q3 q4 Fa2 Na2 ⟨⟨_, _, _, _, rfl, W'K.cast (by walk_at "MINE om") (by walk_at "MINE om"), R'K⟩, rfl, rfl, ⟨rfl, rfl, rfl, rfl, rfl, rfl, rfl, rfl, rfl⟩⟩ ?turn2 ?done2
  case done2 =>
    intro m3 news3 h3 tk3 hJ3 F3 N3
    obtain ⟨V3, lg3, τ1, τ2, rfl, W3, R3⟩ := hJ3.ex
    have M3 := hJ3.m
    change Fr g L _ _ at F3
    change News g L _ _ at N3
    refine wpAny_execs_nil ?_
    obtain ⟨W4, N4, o4⟩ := turn_out HT W3 N3 (.skip (.skip .nil))
    exact ⟨_, _, _, _, rfl, F3, N4, o4, ⟨⟨_, _, _, _, _, _, rfl, W4.cast (by walk_at "MINE om") rfl, R3, htl, hti, by walk_at "MINE om", by walk_at "MINE om"⟩, M3⟩⟩
  clear Fa2 Na2 ka2 hr2 q4
  intro i2 ti2 m₂ news₂ h₄ tk₂ I2 oI2 hi2 hJ2 hoff2 F₄ N₄
  obtain ⟨V₄, lg₄, τ1, τ2, rfl, W₄, R₄⟩ := hJ2.ex
  have e2 := lmap2_eq hJ2.m hJ2.a hJ2.b
  have M₂ := hJ2.m
  change Fr g L _ _ at F₄
  change News g L _ _ at N₄
  obtain ⟨fz2, HT2, G2, W2, Z2, N2⟩ := turn_in (pre := [(tpK, tupO vsK), (mi, tupO mvs)]) G' W₄ Z' N₄ hoff2
  simp only [List.cons_append, List.nil_append] at N2
  rw [e2] at F₄
  have hwk' : Hold ((i2 : Int) = 0 ∨ (i2 : Int) = 1 ∨ (i2 : Int) = 2) := ⟨by walk_at "MINE om"⟩
  have hnm' : Hold (nm = 0 ∨ nm = 1) := ⟨hnm⟩
  repeat (rename _ ∨ _ => hz; clear hz)
  repeat (rename _ ∧ _ => hz; clear hz)
  have hwk := hwk'.out
  have hnm := hnm'.out
  clear hwk' hnm'
  clear W'K R'K W₄ N₄ hJ2 G' Z' R e2 hi2 q3 HT zcn zcn' zca zca'
  obtain ⟨ocn, zcn, zcn'⟩ := Z2.cn
  obtain ⟨oca, uca, zca, zca'⟩ := Z2.ca
  generalize hQx : TurnPost _ _ _ _ _ _ _ = Qx
  have hmk2 : Hold (2 = 2) := ⟨rfl⟩
  (try k_fold)
  k_steps
  refine ⟨?_⟩
  (try dsimp only)
  rename_i FF NN
  refine wpAny_execs_nil ?_
  refine wpAny_execs_nil ?_
  subst hQx
  obtain ⟨W5, N5, o5⟩ := turn_out HT2 W'K NN (.skip (.skip (.skip (.skip (.cons ho'K (.cons mio .nil))))))
  exact ⟨_, _, _, _, rfl, FF, N5, fun q hq => (List.mem_append.mp hq).elim (fun x => hoff2 q (List.mem_append_left _ x)) (o5 q), ⟨⟨_, _, _, _, rfl, W5, R'K⟩, rfl, rfl, ⟨rfl, rfl, rfl, rfl, rfl, rfl, rfl, rfl, rfl⟩⟩⟩

theorem cc (w : World) : LCs (Mine.kmake.heap_1 w.params) PySem.Challenge.pw_jo0040_02 w :=
    ⟨c_next w, c_step w (c_expev w (c_bis w) (c_lam2 w)), c_lstats w (c_tgw1 w) (c_tgw2 w),
      fun kind hk => c_limg w kind hk (c_test0 w (c_get w)) (c_hit0 w (c_incr w (c_get w))) (c_stats0 w (c_get w) (c_getexp w) (c_ws w)) (c_clear0 w (c_clear w))
        (c_test1 w (c_gmw w (c_bis w) (c_lam1 w))) (c_hit1 w (c_acq w (c_entry w))) (c_stats1 w (c_gmw w (c_bis w) (c_lam1 w)) (c_ws w)) (c_clear1 w (c_clear w))
        (c_test2 w (c_getsw w (c_keys w) (c_info w (c_get w))) (c_wc w)) (c_hit2 w (c_acqsw w (c_keys w) (c_info w (c_get w)) (c_incr w (c_get w)))) (c_stats2 w (c_getsw w (c_keys w) (c_info w (c_get w))) (c_wc w) (c_ws w)) (c_clear2 w (c_clearsw w (c_keys w) (c_clear w))),
      ⟨c_itk2 w, c_exp2 w (c_tg3 w)⟩, ⟨c_itk1 w, c_exp1 w (c_tg1 w)⟩,
      c_kf2 w ["a"] (by decide) (by decide) (fun _ _ h1 h2 => JL.j4 (by decide) h1 h2 (by decide)) (c_safes w) (c_safei w) (c_tg4 w),
      c_kf2 w ["a", "b"] (by decide) (by decide) (fun _ _ h1 h2 => JL.j5 (by decide) (by decide) h1 h2 (by decide)) (c_safes w) (c_safei w) (c_tg4 w),
      c_kf1 w ["zz", "q"] (by decide) (by decide) (fun _ _ h1 h2 => JL.j5 (by decide) (by decide) h1 h2 (by decide)) (c_safes w) (c_safei w) (c_tg2 w),
      c_kf1 w ["y"] (by decide) (by decide) (fun _ _ h1 h2 => JL.j4 (by decide) h1 h2 (by decide)) (c_safes w) (c_safei w) (c_tg2 w),
      c_kf1 w ["stranger"] (by decide) (by decide) (fun _ _ h1 h2 => JL.j4 (by decide) h1 h2 (by decide)) (c_safes w) (c_safei w) (c_tg2 w),
      c_kf1 w ["stranger", "q"] (by decide) (by decide) (fun _ _ h1 h2 => JL.j5 (by decide) (by decide) h1 h2 (by decide)) (c_safes w) (c_safei w) (c_tg2 w),
      c_itnew2 w "third"⟩
theorem main.tw10044588960856096794 : True := trivial
theorem main.tw10047389527955405517 : True := trivial
theorem main.tw10092017014551392330 : True := trivial
theorem main.tw10094358506670053839 : True := trivial
theorem main.tw10101900104965146230 : True := trivial
theorem main.tw10114013102757674387 : True := trivial
theorem main.tw10123989817122485451 : True := trivial
theorem main.tw10149618387772673413 : True := trivial
theorem main.tw10159738436595150677 : True := trivial
theorem main.tw10169072693733980587 : True := trivial
theorem main.tw10199874654664476236 : True := trivial
theorem main.tw10204856939554784155 : True := trivial
theorem main.tw10210597933619972095 : True := trivial
theorem main.tw10231336680788121439 : True := trivial
theorem main.tw10234815189450012239 : True := trivial
theorem main.tw1027651156746619712 : True := trivial
theorem main.tw10283388844273144081 : True := trivial
theorem main.tw10298723112805639129 : True := trivial
theorem main.tw10306443723286553467 : True := trivial
theorem main.tw10334261112615635914 : True := trivial
theorem main.tw10363585996791799541 : True := trivial
theorem main.tw10391951854915411234 : True := trivial
theorem main.tw10418042200766032776 : True := trivial
theorem main.tw104360540948158410 : True := trivial
theorem main.tw10450603732522932521 : True := trivial
theorem main.tw10453263994017694363 : True := trivial
theorem main.tw10455743928339290457 : True := trivial
theorem main.tw10463206416058312583 : True := trivial
theorem main.tw10474107093616326617 : True := trivial
theorem main.tw1054321117371714560 : True := trivial
theorem main.tw10564528347858357063 : True := trivial
theorem main.tw10609540516017602915 : True := trivial
theorem main.tw10625486282989778954 : True := trivial
theorem main.tw10642606787283503386 : True := trivial
theorem main.tw10652611922669240339 : True := trivial
theorem main.tw10663580350406149668 : True := trivial
theorem main.tw10665089971535097683 : True := trivial
theorem main.tw10665469846841522134 : True := trivial
theorem main.tw10669944970481658594 : True := trivial
theorem main.tw10750994468655217958 : True := trivial
theorem main.tw10813080517026676716 : True := trivial
theorem main.tw10821422270917381399 : True := trivial
theorem main.tw10825838108423173272 : True := trivial
theorem main.tw1084220662915027778 : True := trivial
theorem main.tw10877679251791092727 : True := trivial
theorem main.tw10896356407431480244 : True := trivial
theorem main.tw10911454570230445115 : True := trivial
theorem main.tw10924716458440934090 : True := trivial
theorem main.tw1092785777240315536 : True := trivial
theorem main.tw10953687544409504101 : True := trivial
theorem main.tw1098248734344127483 : True := trivial
theorem main.tw10987386120367425466 : True := trivial
theorem main.tw1099256609624015869 : True := trivial
theorem main.tw11001617756164336837 : True := trivial
theorem main.tw11003572833241299968 : True := trivial
theorem main.tw11020365191643786025 : True := trivial
theorem main.tw11041547156204584376 : True := trivial
theorem main.tw11049269918873537771 : True := trivial
theorem main.tw11086099901593105684 : True := trivial
theorem main.tw11092141859048813250 : True := trivial
theorem main.tw11101190512080308003 : True := trivial
theorem main.tw11120327062377616369 : True := trivial
theorem main.tw11125538497796368324 : True := trivial
theorem main.tw1118068078248606362 : True := trivial
theorem main.tw11181722664286889309 : True := trivial
theorem main.tw11221353774195762014 : True := trivial
theorem main.tw11239335112260394413 : True := trivial
theorem main.tw11251407683458634364 : True := trivial
theorem main.tw11273777480241942364 : True := trivial
theorem main.tw1130211791997205004 : True := trivial
theorem main.tw11311155076762098589 : True := trivial
theorem main.tw11349898740250378076 : True := trivial
theorem main.tw11374851513655246148 : True := trivial
theorem main.tw11403851563620829512 : True := trivial
theorem main.tw11409991511011244131 : True := trivial
theorem main.tw11410963132546700228 : True := trivial
theorem main.tw1142173933681417890 : True := trivial
theorem main.tw11461230924637031220 : True := trivial
theorem main.tw11463369355524808266 : True := trivial
theorem main.tw11476092923266045095 : True := trivial
theorem main.tw11487549891475536569 : True := trivial
theorem main.tw11501822485730972192 : True := trivial
theorem main.tw1150287232629052791 : True := trivial
theorem main.tw11531331273489700057 : True := trivial
theorem main.tw11544348965984651327 : True := trivial
theorem main.tw11554813239044494598 : True := trivial
theorem main.tw1156462466702112376 : True := trivial
theorem main.tw1157997071576566072 : True := trivial
theorem main.tw11614107205274993552 : True := trivial
theorem main.tw11614346279706655073 : True := trivial
theorem main.tw11646826074482590764 : True := trivial
theorem main.tw11710404883906591787 : True := trivial
theorem main.tw11712081513822626495 : True := trivial
theorem main.tw11716418206903941319 : True := trivial
theorem main.tw11774690029378154688 : True := trivial
theorem main.tw11785714552879321826 : True := trivial
theorem main.tw1178595665728414349 : True := trivial
theorem main.tw11812620880713246772 : True := trivial
theorem main.tw11857135199678951331 : True := trivial
theorem main.tw11967333016625521393 : True := trivial
theorem main.tw11982392923317675503 : True := trivial
theorem main.tw11987853993630220354 : True := trivial
theorem main.tw12014785543569010823 : True := trivial
theorem main.tw12027323910402764344 : True := trivial
theorem main.tw12057704586751987240 : True := trivial
theorem main.tw12077450504624328385 : True := trivial
theorem main.tw12093647306153771053 : True := trivial
theorem main.tw12106859168716417752 : True := trivial
theorem main.tw12130321265151566525 : True := trivial
theorem main.tw12139096438432415106 : True := trivial
theorem main.tw1216228984421328439 : True := trivial
theorem main.tw12170992721606120685 : True := trivial
theorem main.tw12205347405646519318 : True := trivial
theorem main.tw12222963475772708484 : True := trivial
theorem main.tw12245857906982125569 : True := trivial
theorem main.tw12252054271945606052 : True := trivial
theorem main.tw12255313618399501761 : True := trivial
theorem main.tw12273490649430754879 : True := trivial
theorem main.tw12304082900475741265 : True := trivial
theorem main.tw12338497608069007261 : True := trivial
theorem main.tw12346658559823942425 : True := trivial
theorem main.tw12431561837914552411 : True := trivial
theorem main.tw12450111651097656602 : True := trivial
theorem main.tw12455012482086183272 : True := trivial
theorem main.tw12483276189755474720 : True := trivial
theorem main.tw12518504611687188807 : True := trivial
theorem main.tw12519306246395310219 : True := trivial
theorem main.tw1253437644075932092 : True := trivial
theorem main.tw12543713266681445118 : True := trivial
theorem main.tw1255815211270559930 : True := trivial
theorem main.tw12564604832814323664 : True := trivial
theorem main.tw12570134572688502250 : True := trivial
theorem main.tw12574995316784493246 : True := trivial
theorem main.tw12590340796369385619 : True := trivial
theorem main.tw12594366453804578888 : True := trivial
theorem main.tw12608185968620612914 : True := trivial
theorem main.tw12623159325031504133 : True := trivial
theorem main.tw12646911602827044314 : True := trivial
theorem main.tw12653679108036650311 : True := trivial
theorem main.tw12670839924663504800 : True := trivial
theorem main.tw12675357926760492328 : True := trivial
theorem main.tw12681957500809781501 : True := trivial
theorem main.tw1270039299266317192 : True := trivial
theorem main.tw12702744160499308131 : True := trivial
theorem main.tw12741544251441588921 : True := trivial
theorem main.tw12747388180105724736 : True := trivial
theorem main.tw12748397558918655664 : True := trivial
theorem main.tw1277820614484962519 : True := trivial
theorem main.tw12800608258095302798 : True := trivial
theorem main.tw12839114828313443825 : True := trivial
theorem main.tw12872379398031375081 : True := trivial
theorem main.tw12885385263037960081 : True := trivial
theorem main.tw1289389943133740499 : True := trivial
theorem main.tw12900284412222446716 : True := trivial
theorem main.tw12909650291622432550 : True := trivial
theorem main.tw12915833801598196605 : True := trivial
theorem main.tw12922898485456448571 : True := trivial
theorem main.tw12927740378394474205 : True := trivial
theorem main.tw12939479104171293914 : True := trivial
theorem main.tw12941917028564957548 : True := trivial
theorem main.tw1306636233014830658 : True := trivial
theorem main.tw13077236301305049449 : True := trivial
theorem main.tw13110577991587790113 : True := trivial
theorem main.tw13110970153573199417 : True := trivial
theorem main.tw13116522157475607773 : True := trivial
theorem main.tw13148611719377898607 : True := trivial
theorem main.tw13154001654789283132 : True := trivial
theorem main.tw13157206579259725088 : True := trivial
theorem main.tw13180746182150919023 : True := trivial
theorem main.tw13187166440333854079 : True := trivial
theorem main.tw1318968915056948652 : True := trivial
theorem main.tw1319676515408343850 : True := trivial
theorem main.tw13219505800766818778 : True := trivial
theorem main.tw13224007501803129859 : True := trivial
theorem main.tw13227692790652741651 : True := trivial
theorem main.tw13260870731297125680 : True := trivial
theorem main.tw13270728482189477470 : True := trivial
theorem main.tw13293747886898857621 : True := trivial
theorem main.tw13306352142949925410 : True := trivial
theorem main.tw13313126695403321540 : True := trivial
theorem main.tw13348322127785295214 : True := trivial
theorem main.tw13350764725976880583 : True := trivial
theorem main.tw13355152605343272895 : True := trivial
theorem main.tw13402765919934010277 : True := trivial
theorem main.tw13406003279186336099 : True := trivial
theorem main.tw13465503431842376007 : True := trivial
theorem main.tw13503263706703578961 : True := trivial
theorem main.tw13528444936155630978 : True := trivial
theorem main.tw13532707612510029741 : True := trivial
theorem main.tw13547569757486424058 : True := trivial
theorem main.tw13590572293223372214 : True := trivial
theorem main.tw13591255225166038476 : True := trivial
theorem main.tw13597483153833180358 : True := trivial
theorem main.tw13626721169425172152 : True := trivial
theorem main.tw13642826006792871662 : True := trivial
theorem main.tw13667920496262714385 : True := trivial
theorem main.tw13676971244355772609 : True := trivial
theorem main.tw13693970394777133609 : True := trivial
theorem main.tw13713940216889387898 : True := trivial
theorem main.tw13724616953566380437 : True := trivial
theorem main.tw1372806426800153423 : True := trivial
theorem main.tw13777938177461255882 : True := trivial
theorem main.tw13797323745857372409 : True := trivial
theorem main.tw13803360072150633466 : True := trivial
theorem main.tw1390771862084280389 : True := trivial
theorem main.tw13912483658784447730 : True := trivial
theorem main.tw13962693860625380366 : True := trivial
theorem main.tw13972245371655741198 : True := trivial
theorem main.tw13974046611088194958 : True := trivial
theorem main.tw13980345723018547825 : True := trivial
theorem main.tw13995172100960836882 : True := trivial
theorem main.tw14009396871252706886 : True := trivial
theorem main.tw14027531716089632829 : True := trivial
theorem main.tw14027650596787315314 : True := trivial
theorem main.tw14060465935940456498 : True := trivial
theorem main.tw14061640607465278742 : True := trivial
theorem main.tw14064073609400967072 : True := trivial
theorem main.tw14080665800827857628 : True := trivial
theorem main.tw14097447854668400296 : True := trivial
theorem main.tw1409966394225722968 : True := trivial
theorem main.tw14106445559736802775 : True := trivial
theorem main.tw14137733554486855543 : True := trivial
theorem main.tw14161005256144132680 : True := trivial
theorem main.tw14168887731352723522 : True := trivial
theorem main.tw14216407083858561409 : True := trivial
theorem main.tw14218914174604095658 : True := trivial
theorem main.tw14235155234550121937 : True := trivial
theorem main.tw1429040668314091153 : True := trivial
theorem main.tw14313897822631088780 : True := trivial
theorem main.tw14360999137194182845 : True := trivial
theorem main.tw14364048958407549093 : True := trivial
theorem main.tw14368271195830560734 : True := trivial
theorem main.tw14390754486103292620 : True := trivial
theorem main.tw14406990849044604362 : True := trivial
theorem main.tw14439473939278146460 : True := trivial
theorem main.tw14443092014599818573 : True := trivial
theorem main.tw14489535830319231195 : True := trivial
theorem main.tw14492832472218066102 : True := trivial
theorem main.tw14501139755280948549 : True := trivial
theorem main.tw14504180641510445567 : True := trivial
theorem main.tw14505591007561851907 : True := trivial
theorem main.tw14510055921401542917 : True := trivial
theorem main.tw1453356044741674121 : True := trivial
theorem main.tw14539993770535171780 : True := trivial
theorem main.tw1454224541498743561 : True := trivial
theorem main.tw14554314840745968623 : True := trivial
theorem main.tw14635473669698735251 : True := trivial
theorem main.tw14639212616227390028 : True := trivial
theorem main.tw14640416626631428029 : True := trivial
theorem main.tw14646587721710459877 : True := trivial
theorem main.tw14662554035588321541 : True := trivial
theorem main.tw14666387041718499266 : True := trivial
theorem main.tw14672674291997333471 : True := trivial
theorem main.tw1469836325065767749 : True := trivial
theorem main.tw14722489848711283861 : True := trivial
theorem main.tw14759895335926876869 : True := trivial
theorem main.tw14771111431291430275 : True := trivial
theorem main.tw14788915703135433725 : True := trivial
theorem main.tw14793117695081215449 : True := trivial
theorem main.tw14798791472264738832 : True := trivial
theorem main.tw14849204138880929251 : True := trivial
theorem main.tw14859100970857779836 : True := trivial
theorem main.tw14864641218109852296 : True := trivial
theorem main.tw14909365282108701170 : True := trivial
theorem main.tw1496695287857109588 : True := trivial
theorem main.tw15015763463395708765 : True := trivial
theorem main.tw15017983477296125989 : True := trivial
theorem main.tw15023316991559800185 : True := trivial
theorem main.tw1504049600530537962 : True := trivial
theorem main.tw15059693217772790739 : True := trivial
theorem main.tw15060185592220127646 : True := trivial
theorem main.tw15062679425460387418 : True := trivial
theorem main.tw15079240505294077160 : True := trivial
theorem main.tw15097543051748444868 : True := trivial
theorem main.tw15131278010643852716 : True := trivial
theorem main.tw15136431859952498927 : True := trivial
theorem main.tw1519927702969063271 : True := trivial
theorem main.tw1519992759497675636 : True := trivial
theorem main.tw15225127925928830808 : True := trivial
theorem main.tw15270170921892066516 : True := trivial
theorem main.tw15277975159832343749 : True := trivial
theorem main.tw15303317825217679618 : True := trivial
theorem main.tw15312394840280087653 : True := trivial
theorem main.tw15342904991969174519 : True := trivial
theorem main.tw15350898050860989542 : True := trivial
theorem main.tw15356762974548107741 : True := trivial
theorem main.tw15365013842991253249 : True := trivial
theorem main.tw15387884906608193903 : True := trivial
theorem main.tw15410482203810522393 : True := trivial
theorem main.tw15438212644395081984 : True := trivial
theorem main.tw1545906260438175962 : True := trivial
theorem main.tw15465920861327815835 : True := trivial
theorem main.tw15467891735981029475 : True := trivial
theorem main.tw15485851114877660061 : True := trivial
theorem main.tw15490453718614586829 : True := trivial
theorem main.tw15491723280356408159 : True := trivial
theorem main.tw15510692781650021527 : True := trivial
theorem main.tw15514936471743626214 : True := trivial
theorem main.tw15540984915698410164 : True := trivial
theorem main.tw15554039934745177238 : True := trivial
theorem main.tw15558288988949320067 : True := trivial
theorem main.tw15565075772751903193 : True := trivial
theorem main.tw15579395750891953841 : True := trivial
theorem main.tw15580989882048331800 : True := trivial
theorem main.tw15608450976537380609 : True := trivial
theorem main.tw15616401959046598769 : True := trivial
theorem main.tw15624239662980076321 : True := trivial
theorem main.tw15643365686152983790 : True := trivial
theorem main.tw15672986146971166658 : True := trivial
theorem main.tw15734200111481486640 : True := trivial
theorem main.tw15734660467963936456 : True := trivial
theorem main.tw15737690656516749961 : True := trivial
theorem main.tw15768048840197415361 : True := trivial
theorem main.tw15803610866087392283 : True := trivial
theorem main.tw15806524323241146399 : True := trivial
theorem main.tw15928290008803537013 : True := trivial
theorem main.tw15957597259013190341 : True := trivial
theorem main.tw15970538086172389420 : True := trivial
theorem main.tw15984706205718930553 : True := trivial
theorem main.tw16008252555379753968 : True := trivial
theorem main.tw16008457594558532635 : True := trivial
theorem main.tw16022572192331126682 : True := trivial
theorem main.tw16046730324260685337 : True := trivial
theorem main.tw16049902774474827687 : True := trivial
theorem main.tw16135426469972691074 : True := trivial
theorem main.tw1615045767204293396 : True := trivial
theorem main.tw16153842264607907944 : True := trivial
theorem main.tw1615956725737779560 : True := trivial
theorem main.tw161903638078081290 : True := trivial
theorem main.tw16193401482309157537 : True := trivial
theorem main.tw16218864148678617972 : True := trivial
theorem main.tw16234833853572446788 : True := trivial
theorem main.tw16251939892948500945 : True := trivial
theorem main.tw16292202817602668162 : True := trivial
theorem main.tw16304157974115477746 : True := trivial
theorem main.tw16305672181175384284 : True := trivial
theorem main.tw16320215318167395912 : True := trivial
theorem main.tw1632041292262086317 : True := trivial
theorem main.tw16320729459185622934 : True := trivial
theorem main.tw16356685582667847594 : True := trivial
theorem main.tw16411370214107742406 : True := trivial
theorem main.tw16451033083921036709 : True := trivial
theorem main.tw16452447596832230105 : True := trivial
theorem main.tw1645717771770832407 : True := trivial
theorem main.tw16480584520131690045 : True := trivial
theorem main.tw16508919721030705984 : True := trivial
theorem main.tw16519101796099990279 : True := trivial
theorem main.tw16544489699163171333 : True := trivial
theorem main.tw16551855485269240956 : True := trivial
theorem main.tw16572128252103988241 : True := trivial
theorem main.tw16629339528299215175 : True := trivial
theorem main.tw16641786646906312760 : True := trivial
theorem main.tw16651728564920304373 : True := trivial
theorem main.tw16676564476587882173 : True := trivial
theorem main.tw16689149305811164139 : True := trivial
theorem main.tw16721930046160240684 : True := trivial
theorem main.tw16755849432154420019 : True := trivial
theorem main.tw16757190730947197508 : True := trivial
theorem main.tw16765925921980633802 : True := trivial
theorem main.tw16778611742570070204 : True := trivial
theorem main.tw1678875084529416142 : True := trivial
theorem main.tw16790050636404226231 : True := trivial
theorem main.tw16798622893749714585 : True := trivial
theorem main.tw16806246253224384389 : True := trivial
theorem main.tw16817993663026736274 : True := trivial
theorem main.tw16819838333489098493 : True := trivial
theorem main.tw16832360635688203351 : True := trivial
theorem main.tw16922381011570985944 : True := trivial
theorem main.tw16923884221124529275 : True := trivial
theorem main.tw16945308108081935841 : True := trivial
theorem main.tw16950194794029067938 : True := trivial
theorem main.tw16952715711813285254 : True := trivial
theorem main.tw16959884160788844718 : True := trivial
theorem main.tw17016820405989369747 : True := trivial
theorem main.tw17052023290607921161 : True := trivial
theorem main.tw17057053908230417247 : True := trivial
theorem main.tw1707505545463187130 : True := trivial
theorem main.tw17091655785135471103 : True := trivial
theorem main.tw17118054049896295152 : True := trivial
theorem main.tw17146568849442343683 : True := trivial
theorem main.tw17147588175821073265 : True := trivial
theorem main.tw1714950047550659301 : True := trivial
theorem main.tw17223442867436993403 : True := trivial
theorem main.tw17236958762192778904 : True := trivial
theorem main.tw17268439761433841065 : True := trivial
theorem main.tw17272174723667511238 : True := trivial
theorem main.tw17275675667316583603 : True := trivial
theorem main.tw17290568124846718506 : True := trivial
theorem main.tw17297283025540448806 : True := trivial
theorem main.tw17298425922696826006 : True := trivial
theorem main.tw17336282652733537790 : True := trivial
theorem main.tw17353955331779342651 : True := trivial
theorem main.tw17413556829735388813 : True := trivial
theorem main.tw17431719831054627609 : True := trivial
theorem main.tw17438294365789470252 : True := trivial
theorem main.tw17450470499104002142 : True := trivial
theorem main.tw17456035664235451855 : True := trivial
theorem main.tw17477492558424962760 : True := trivial
theorem main.tw17495560712657236704 : True := trivial
theorem main.tw17561526911342447988 : True := trivial
theorem main.tw17563168436475441343 : True := trivial
theorem main.tw17600866488970185278 : True := trivial
theorem main.tw17644181745481072423 : True := trivial
theorem main.tw17647351573629430322 : True := trivial
theorem main.tw17665120845849184447 : True := trivial
theorem main.tw17679725944135375923 : True := trivial
theorem main.tw17695171507069755227 : True := trivial
theorem main.tw17708487481403421675 : True := trivial
theorem main.tw17715262827843222689 : True := trivial
theorem main.tw17725498274588495791 : True := trivial
theorem main.tw17737603089517620647 : True := trivial
theorem main.tw17767330081159143506 : True := trivial
theorem main.tw1777545030009416734 : True := trivial
theorem main.tw17904854198161793398 : True := trivial
theorem main.tw17906638245316424091 : True := trivial
theorem main.tw17958375852430007124 : True := trivial
theorem main.tw17971684651808409997 : True := trivial
theorem main.tw17974016328880235120 : True := trivial
theorem main.tw18005423509665057918 : True := trivial
theorem main.tw18063282731904131703 : True := trivial
theorem main.tw18072910330486901160 : True := trivial
theorem main.tw18095395832024091882 : True := trivial
theorem main.tw18134284020713443437 : True := trivial
theorem main.tw18178676814319149831 : True := trivial
theorem main.tw18190005008629794160 : True := trivial
theorem main.tw1826329307503635854 : True := trivial
theorem main.tw18284262389922463811 : True := trivial
theorem main.tw18287795668848337631 : True := trivial
theorem main.tw18288009448212308685 : True := trivial
theorem main.tw18302796317244248524 : True := trivial
theorem main.tw18325589031809861271 : True := trivial
theorem main.tw18385570937342765463 : True := trivial
theorem main.tw18392154025008590481 : True := trivial
theorem main.tw18395943939669218033 : True := trivial
theorem main.tw18403998269306519403 : True := trivial
theorem main.tw18418235949754561950 : True := trivial
theorem main.tw18421580907717582127 : True := trivial
theorem main.tw18425317256667529438 : True := trivial
theorem main.tw18431692314602308842 : True := trivial
theorem main.tw1900339198761634783 : True := trivial
theorem main.tw2007339730380871907 : True := trivial
theorem main.tw2019394398466159022 : True := trivial
theorem main.tw2058021452347087232 : True := trivial
theorem main.tw2110754180369666209 : True := trivial
theorem main.tw2173562974560187446 : True := trivial
theorem main.tw2195194259037543316 : True := trivial
theorem main.tw221909299271738847 : True := trivial
theorem main.tw2225956059507018244 : True := trivial
theorem main.tw2238316416991798583 : True := trivial
theorem main.tw2279707942289718827 : True := trivial
theorem main.tw2287757881348798766 : True := trivial
theorem main.tw2337230598321646361 : True := trivial
theorem main.tw2399826469436781019 : True := trivial
theorem main.tw2402762420636078793 : True := trivial
theorem main.tw2406621943657119228 : True := trivial
theorem main.tw2428412748925179849 : True := trivial
theorem main.tw2433702464844828792 : True := trivial
theorem main.tw244467455267321384 : True := trivial
theorem main.tw2456247091588846565 : True := trivial
theorem main.tw2496676261509829067 : True := trivial
theorem main.tw2524017781993486291 : True := trivial
theorem main.tw2544328076492683441 : True := trivial
theorem main.tw2583023086579268501 : True := trivial
theorem main.tw2629084897520917108 : True := trivial
theorem main.tw2647654807098235363 : True := trivial
theorem main.tw2702614204127132176 : True := trivial
theorem main.tw2704602940660078815 : True := trivial
theorem main.tw2714283472998740243 : True := trivial
theorem main.tw2724176850512262202 : True := trivial
theorem main.tw2729793432009153956 : True := trivial
theorem main.tw2750411421705246143 : True := trivial
theorem main.tw2759098988195820126 : True := trivial
theorem main.tw2821470743931037460 : True := trivial
theorem main.tw2852251193174398662 : True := trivial
theorem main.tw2895952525429962455 : True := trivial
theorem main.tw2900998541784483753 : True := trivial
theorem main.tw2921958311620399285 : True := trivial
theorem main.tw2965820268544440810 : True := trivial
theorem main.tw302440914744352476 : True := trivial
theorem main.tw3027586509356016917 : True := trivial
theorem main.tw3045742163950154196 : True := trivial
theorem main.tw3061210839406688194 : True := trivial
theorem main.tw3136416535801588117 : True := trivial
theorem main.tw3137596982192898869 : True := trivial
theorem main.tw3160845607165458772 : True := trivial
theorem main.tw31828345220925962 : True := trivial
theorem main.tw3203809635103463919 : True := trivial
theorem main.tw3220561703981169602 : True := trivial
theorem main.tw3222223853247747169 : True := trivial
theorem main.tw3234112476842188716 : True := trivial
theorem main.tw3288582142898991060 : True := trivial
theorem main.tw3298483428156984901 : True := trivial
theorem main.tw330327031418712150 : True := trivial
theorem main.tw3305931106042330821 : True := trivial
theorem main.tw3314904115985164895 : True := trivial
theorem main.tw3343439749351644125 : True := trivial
theorem main.tw33456957511925785 : True := trivial
theorem main.tw3370842686811476594 : True := trivial
theorem main.tw341453280667917650 : True := trivial
theorem main.tw3459380146013217038 : True := trivial
theorem main.tw3464709057266567092 : True := trivial
theorem main.tw3466206800631347469 : True := trivial
theorem main.tw3491332818749588091 : True := trivial
theorem main.tw3532412968194664532 : True := trivial
theorem main.tw3549514262204291990 : True := trivial
theorem main.tw3557749057250611081 : True := trivial
theorem main.tw3562595001068472590 : True := trivial
theorem main.tw3570300971023340979 : True := trivial
theorem main.tw3583811862363856187 : True := trivial
theorem main.tw3626430660855392483 : True := trivial
theorem main.tw3635900802997115186 : True := trivial
theorem main.tw365850788961202214 : True := trivial
theorem main.tw3700613219704866761 : True := trivial
theorem main.tw3706830351922483016 : True := trivial
theorem main.tw3748114642381145586 : True := trivial
theorem main.tw3779293765908593550 : True := trivial
theorem main.tw3796207824708393856 : True := trivial
theorem main.tw3829396358689915599 : True := trivial
theorem main.tw3848698983108048278 : True := trivial
theorem main.tw3864431920445960829 : True := trivial
theorem main.tw3867218068155391060 : True := trivial
theorem main.tw387501639795913443 : True := trivial
theorem main.tw3905226178654972811 : True := trivial
theorem main.tw3911810758690780188 : True := trivial
theorem main.tw3958507339218470045 : True := trivial
theorem main.tw3960113756560652017 : True := trivial
theorem main.tw3994622017586750766 : True := trivial
theorem main.tw4026956272090484662 : True := trivial
theorem main.tw4038153913678941442 : True := trivial
theorem main.tw4039676971129161736 : True := trivial
theorem main.tw4044139247061151142 : True := trivial
theorem main.tw4047586217144654443 : True := trivial
theorem main.tw4072190877284726289 : True := trivial
theorem main.tw4088224383575840552 : True := trivial
theorem main.tw4126091431370883743 : True := trivial
theorem main.tw4156125974679941130 : True := trivial
theorem main.tw4189750870438640210 : True := trivial
theorem main.tw4193505271845495863 : True := trivial
theorem main.tw4216741518440994707 : True := trivial
theorem main.tw4244067443239231564 : True := trivial
theorem main.tw4261964983698606537 : True := trivial
theorem main.tw4297412468100583042 : True := trivial
theorem main.tw4310270188432123100 : True := trivial
theorem main.tw4324958949535026087 : True := trivial
theorem main.tw4333880214566435006 : True := trivial
theorem main.tw4365514962571936147 : True := trivial
theorem main.tw4452170602077327944 : True := trivial
theorem main.tw4458048076830672230 : True := trivial
theorem main.tw4491334807805099456 : True := trivial
theorem main.tw4500915450034043215 : True := trivial
theorem main.tw452746233719593009 : True := trivial
theorem main.tw453184122279072053 : True := trivial
theorem main.tw4544244032028310869 : True := trivial
theorem main.tw4573282807186111410 : True := trivial
theorem main.tw4585930131862741453 : True := trivial
theorem main.tw4605139254293405059 : True := trivial
theorem main.tw4630824681090250767 : True := trivial
theorem main.tw4637267157515435788 : True := trivial
theorem main.tw4638281056170512193 : True := trivial
theorem main.tw4651154628705390771 : True := trivial
theorem main.tw4681395471914393968 : True := trivial
theorem main.tw470481871638761223 : True := trivial
theorem main.tw471287901995484742 : True := trivial
theorem main.tw4719957520787936630 : True := trivial
theorem main.tw4749052000479324790 : True := trivial
theorem main.tw4766233809647381661 : True := trivial
theorem main.tw4775608329324902142 : True := trivial
theorem main.tw4812270449578504274 : True := trivial
theorem main.tw4817600198373253283 : True := trivial
theorem main.tw4838787530573997063 : True := trivial
theorem main.tw4882109666999030741 : True := trivial
theorem main.tw4908570168794737769 : True := trivial
theorem main.tw4924694640843408985 : True := trivial
theorem main.tw4946776927847147119 : True := trivial
theorem main.tw495442525896006271 : True := trivial
theorem main.tw49674306023711395 : True := trivial
theorem main.tw4979129192750982822 : True := trivial
theorem main.tw5004366561265856203 : True := trivial
theorem main.tw5061512775090418087 : True := trivial
theorem main.tw5084117380071580128 : True := trivial
theorem main.tw5094788766196295912 : True := trivial
theorem main.tw5104194264097766351 : True := trivial
theorem main.tw5127751686995613262 : True := trivial
theorem main.tw5181119749688162637 : True := trivial
theorem main.tw5203219222101121401 : True := trivial
theorem main.tw52199770228462824 : True := trivial
theorem main.tw5240779543111244032 : True := trivial
theorem main.tw5243159528196176124 : True := trivial
theorem main.tw5287059835090251167 : True := trivial
theorem main.tw5289026146741335887 : True := trivial
theorem main.tw534805316618712249 : True := trivial
theorem main.tw5396188567872606041 : True := trivial
theorem main.tw5396361742852586263 : True := trivial
theorem main.tw5400957986263281647 : True := trivial
theorem main.tw5418533224930618480 : True := trivial
theorem main.tw5436791530062809996 : True := trivial
theorem main.tw5445500540807937540 : True := trivial
theorem main.tw5450094653865882931 : True := trivial
theorem main.tw545269030811804461 : True := trivial
theorem main.tw5456330333991267789 : True := trivial
theorem main.tw5473700226181020891 : True := trivial
theorem main.tw54841869916938688 : True := trivial
theorem main.tw5502569546826302122 : True := trivial
theorem main.tw5518243967957118194 : True := trivial
theorem main.tw5532463470591059822 : True := trivial
theorem main.tw5571399437266216444 : True := trivial
theorem main.tw5613160597433933154 : True := trivial
theorem main.tw5616070069386785504 : True := trivial
theorem main.tw5623159541915647742 : True := trivial
theorem main.tw5638201095994319732 : True := trivial
theorem main.tw5649967823195072380 : True := trivial
theorem main.tw5665406974723832613 : True := trivial
theorem main.tw5665735395497279834 : True := trivial
theorem main.tw5671064798259553346 : True := trivial
theorem main.tw5677329702179833609 : True := trivial
theorem main.tw5781596087445459943 : True := trivial
theorem main.tw5790326737455844299 : True := trivial
theorem main.tw5797031442667253490 : True := trivial
theorem main.tw5831584030425509755 : True := trivial
theorem main.tw5837888446457221635 : True := trivial
theorem main.tw5838101520590548733 : True := trivial
theorem main.tw5842977544298395883 : True := trivial
theorem main.tw5871769198996169552 : True := trivial
theorem main.tw588950844065142505 : True := trivial
theorem main.tw5921134243170700561 : True := trivial
theorem main.tw5922089264872639179 : True := trivial
theorem main.tw6044114016751833949 : True := trivial
theorem main.tw6053611964639427726 : True := trivial
theorem main.tw6075091234017535682 : True := trivial
theorem main.tw6087835443962453003 : True := trivial
theorem main.tw6112859857366181021 : True := trivial
theorem main.tw6140287776057189764 : True := trivial
theorem main.tw6161133996638707016 : True := trivial
theorem main.tw6162249291895867263 : True := trivial
theorem main.tw6164561884633627433 : True := trivial
theorem main.tw6183352029847204284 : True := trivial
theorem main.tw6214117541549086881 : True := trivial
theorem main.tw6222487380544312443 : True := trivial
theorem main.tw6234934611588079204 : True := trivial
theorem main.tw6237627108579964202 : True := trivial
theorem main.tw6361450105264607166 : True := trivial
theorem main.tw6384028539975533837 : True := trivial
theorem main.tw6385024630547198690 : True := trivial
theorem main.tw6389877041954997217 : True := trivial
theorem main.tw6418098437765475518 : True := trivial
theorem main.tw6449824600675878752 : True := trivial
theorem main.tw645136716886899192 : True := trivial
theorem main.tw6455149578367423246 : True := trivial
theorem main.tw6511744376749373798 : True := trivial
theorem main.tw6516198228755648517 : True := trivial
theorem main.tw6519269512792494810 : True := trivial
theorem main.tw6535589618603614281 : True := trivial
theorem main.tw6545385358150927430 : True := trivial
theorem main.tw656089360051881306 : True := trivial
theorem main.tw65644731488775911 : True := trivial
theorem main.tw6565609875121592624 : True := trivial
theorem main.tw6584820252761975732 : True := trivial
theorem main.tw6596593509180878263 : True := trivial
theorem main.tw6611068267950478117 : True := trivial
theorem main.tw66260789543402106 : True := trivial
theorem main.tw6635558491612396129 : True := trivial
theorem main.tw6639522245352263942 : True := trivial
theorem main.tw6655696309031964122 : True := trivial
theorem main.tw6657087868060814 : True := trivial
theorem main.tw6663778134991626487 : True := trivial
theorem main.tw6674386428176565332 : True := trivial
theorem main.tw6674893403203295414 : True := trivial
theorem main.tw6690441779611380620 : True := trivial
theorem main.tw6696893160125735727 : True := trivial
theorem main.tw6697339332421208802 : True := trivial
theorem main.tw6702130215012162313 : True := trivial
theorem main.tw6741292078354696603 : True := trivial
theorem main.tw6785432497481299714 : True := trivial
theorem main.tw6785657489111691699 : True := trivial
theorem main.tw6788530277367551627 : True := trivial
theorem main.tw6788695710022549768 : True := trivial
theorem main.tw6801380410627298636 : True := trivial
theorem main.tw6850953280950106022 : True := trivial
theorem main.tw6855474311058116810 : True := trivial
theorem main.tw6862268138105152660 : True := trivial
theorem main.tw6862492499505807319 : True := trivial
theorem main.tw6868236387235032019 : True := trivial
theorem main.tw6877560268529008848 : True := trivial
theorem main.tw6886502059237256666 : True := trivial
theorem main.tw6898400011967081535 : True := trivial
theorem main.tw6907636171062424033 : True := trivial
theorem main.tw6910295442248876197 : True := trivial
theorem main.tw6912675738884088206 : True := trivial
theorem main.tw7010351842590255796 : True := trivial
theorem main.tw7019240024125815769 : True := trivial
theorem main.tw7054876372555587774 : True := trivial
theorem main.tw7074144079889050967 : True := trivial
theorem main.tw7083192437325867461 : True := trivial
theorem main.tw7093617532817203218 : True := trivial
theorem main.tw7108953243070827183 : True := trivial
theorem main.tw7113585516715319716 : True := trivial
theorem main.tw7153082081811710619 : True := trivial
theorem main.tw716429049611869786 : True := trivial
theorem main.tw7165207203227711834 : True := trivial
theorem main.tw7173623326730630234 : True := trivial
theorem main.tw7185430874574936034 : True := trivial
theorem main.tw7186131708394509389 : True := trivial
theorem main.tw7214478077546791972 : True := trivial
theorem main.tw7235775444256392728 : True := trivial
theorem main.tw7237411587787531456 : True := trivial
theorem main.tw7268301785047649679 : True := trivial
theorem main.tw7273056430967151046 : True := trivial
theorem main.tw7293298908176781663 : True := trivial
theorem main.tw7297187181890747607 : True := trivial
theorem main.tw7298748307773712898 : True := trivial
theorem main.tw7299474751278700455 : True := trivial
theorem main.tw7308723440029596264 : True := trivial
theorem main.tw7312800785302055548 : True := trivial
theorem main.tw7332330508316399935 : True := trivial
theorem main.tw7332552209862256014 : True := trivial
theorem main.tw73751810991705359 : True := trivial
theorem main.tw7380652910202371479 : True := trivial
theorem main.tw7411558596216406370 : True := trivial
theorem main.tw7439787175107056256 : True := trivial
theorem main.tw7472368607099979303 : True := trivial
theorem main.tw750237026923860459 : True := trivial
theorem main.tw7514964652732493775 : True := trivial
theorem main.tw7563215957194029611 : True := trivial
theorem main.tw7590696779544312186 : True := trivial
theorem main.tw7623509227018997848 : True := trivial
theorem main.tw7623511443260959870 : True := trivial
theorem main.tw7624122152786673341 : True := trivial
theorem main.tw7624293977416268664 : True := trivial
theorem main.tw7639352225515584698 : True := trivial
theorem main.tw7647378279178456250 : True := trivial
theorem main.tw765107192605250810 : True := trivial
theorem main.tw7675930258259734528 : True := trivial
theorem main.tw7691172733374981047 : True := trivial
theorem main.tw7697417962357392202 : True := trivial
theorem main.tw7698036289167662538 : True := trivial
theorem main.tw7742616358663508648 : True := trivial
theorem main.tw7761410557224570781 : True := trivial
theorem main.tw7846812961960373227 : True := trivial
theorem main.tw785246043732427063 : True := trivial
theorem main.tw7884273913378172499 : True := trivial
theorem main.tw7884331609784382070 : True := trivial
theorem main.tw7904437144335635152 : True := trivial
theorem main.tw7929128423345735474 : True := trivial
theorem main.tw796168687070700412 : True := trivial
theorem main.tw7972779244933481256 : True := trivial
theorem main.tw7974275031393228247 : True := trivial
theorem main.tw799486724532869496 : True := trivial
theorem main.tw8046773169563483271 : True := trivial
theorem main.tw8060562821785662972 : True := trivial
theorem main.tw8079908401900000222 : True := trivial
theorem main.tw8083410546124829597 : True := trivial
theorem main.tw8090509862211737132 : True := trivial
theorem main.tw8102450764968551371 : True := trivial
theorem main.tw8118072479153026202 : True := trivial
theorem main.tw8181977626019955066 : True := trivial
theorem main.tw8207831470162742035 : True := trivial
theorem main.tw8211959896082780389 : True := trivial
theorem main.tw8249873531624179374 : True := trivial
theorem main.tw8260724100714396741 : True := trivial
theorem main.tw8265370782698574782 : True := trivial
theorem main.tw8281396171620568247 : True := trivial
theorem main.tw832900586485598795 : True := trivial
theorem main.tw833945537157984683 : True := trivial
theorem main.tw834873547066669988 : True := trivial
theorem main.tw8436210846270712021 : True := trivial
theorem main.tw8440099810896429113 : True := trivial
theorem main.tw8466321980469482115 : True := trivial
theorem main.tw8467378866343419333 : True := trivial
theorem main.tw8478376212529829071 : True := trivial
theorem main.tw8484041278411425421 : True := trivial
theorem main.tw8528285597010949478 : True := trivial
theorem main.tw854977524454699277 : True := trivial
theorem main.tw8557395850702784662 : True := trivial
theorem main.tw8567518541235275850 : True := trivial
theorem main.tw8634654232796393261 : True := trivial
theorem main.tw8663697691656813868 : True := trivial
theorem main.tw8681388529863501421 : True := trivial
theorem main.tw8707812797481193996 : True := trivial
theorem main.tw8729708805864041840 : True := trivial
theorem main.tw8809968196449919288 : True := trivial
theorem main.tw8828626079734051433 : True := trivial
theorem main.tw8834365191522931223 : True := trivial
theorem main.tw8858393802727457242 : True := trivial
theorem main.tw8879939841973710529 : True := trivial
theorem main.tw8883465813499100731 : True := trivial
theorem main.tw8905464785575363620 : True := trivial
theorem main.tw8905992674379837232 : True := trivial
theorem main.tw892681787802806017 : True := trivial
theorem main.tw8930851030842425676 : True := trivial
theorem main.tw8947760058931562597 : True := trivial
theorem main.tw8952462522180670554 : True := trivial
theorem main.tw8989776476301544223 : True := trivial
theorem main.tw9069182735580402390 : True := trivial
theorem main.tw9144235867128078380 : True := trivial
theorem main.tw9155575984036265788 : True := trivial
theorem main.tw917386388269078853 : True := trivial
theorem main.tw9175052073728820173 : True := trivial
theorem main.tw918671981122897330 : True := trivial
theorem main.tw9189880136782149556 : True := trivial
theorem main.tw9190990891756207365 : True := trivial
theorem main.tw9253799994812790149 : True := trivial
theorem main.tw9265829497004654079 : True := trivial
theorem main.tw9268297945177815525 : True := trivial
theorem main.tw9272984997812220495 : True := trivial
theorem main.tw9303439499767911484 : True := trivial
theorem main.tw9321267617633783869 : True := trivial
theorem main.tw9360745474812902239 : True := trivial
theorem main.tw9361300454564663673 : True := trivial
theorem main.tw9368617206455126095 : True := trivial
theorem main.tw9369988214560726041 : True := trivial
theorem main.tw9381886862466946253 : True := trivial
theorem main.tw9392487213469676918 : True := trivial
theorem main.tw9394770849952503311 : True := trivial
theorem main.tw9406782406253462049 : True := trivial
theorem main.tw9470667924834194258 : True := trivial
theorem main.tw9498315638749924794 : True := trivial
theorem main.tw9512817274939609580 : True := trivial
theorem main.tw9515011664573035354 : True := trivial
theorem main.tw9557352009045844224 : True := trivial
theorem main.tw9558744834307401277 : True := trivial
theorem main.tw9561784451562097942 : True := trivial
theorem main.tw9573086628692744296 : True := trivial
theorem main.tw961187720498965250 : True := trivial
theorem main.tw962032349192862916 : True := trivial
theorem main.tw962193829226610041 : True := trivial
theorem main.tw9626384672669237482 : True := trivial
theorem main.tw9656510801202774680 : True := trivial
theorem main.tw9658885295015712986 : True := trivial
theorem main.tw9670510015898674028 : True := trivial
theorem main.tw9681375758050803366 : True := trivial
theorem main.tw9716624006974247489 : True := trivial
theorem main.tw9730157408454304684 : True := trivial
theorem main.tw9756827057097773860 : True := trivial
theorem main.tw979501456738626862 : True := trivial
theorem main.tw9800874449034162761 : True := trivial
theorem main.tw9808303207383738048 : True := trivial
theorem main.tw9840939614602229412 : True := trivial
theorem main.tw9848185148710128376 : True := trivial
theorem main.tw9880953963774564861 : True := trivial
theorem main.tw9897820754763898449 : True := trivial
theorem main.tw9903775340124721222 : True := trivial
theorem main.tw9942282790977331292 : True := trivial
theorem main.tw9964214247947446159 : True := trivial
theorem main.tw9976160756891316704 : True := trivial
theorem main.tw9994787619460420439 : True := trivial
set_option Elab.async true
set_option maxHeartbeats 0 in
theorem main : PySem.Challenge.rw_jo0040_02.Holds := by
  w_on
  o_law
  o_head (kmHook Mine.kmake.heap_1 [2,3,15,17,18,20,21,29,31,32,34,35,36,37,39,40,42,43,44,46,47,49,50,51,53,54,56,57,58,59,60,61,62,65,68,73,74,75,76,78,79,81,82,83,85,86,88,89,90,91,92,93,94,96,97,99,100,101,103,104,106,107,108,110,111,113,114,115,117,118,120,121,122,123,124,126,127,129,131,132,133,143,145,146,148,149,150,151,152,154,155,157,158,159,160,161,162,163,166,173,174,175,177,178,180,181,182,183,184,186,187,189,190,191,192,193,195,196,198,199,200,201,202,205,212,213,214,216,217,219,220,221,222,223,225,226,228,229,230,231,232,234,235,237,238,239,240,241,244,251,253,254,256,257,258,259,260,262,263,265,266,267,268,269,271,272,274,275,276,277,278,280,281,283,284,285,286,287,289,290,292,293,294,295,296,306,308,309,311,312,313,314,316,317,319,320,321,323,324,326,327,328,330,331,333,334,335,336,337,338,339,342,344,345,347,348,349,352,357,358,359,360,362,363,365,366,367,369,370,372,373,374,375,376,377,378,380,381,383,384,385,387,388,390,391,392,394,395,397,398,399,401,402,404,405,406,407,408,410,411,413,415,416,417,427,428,430,431,433,434,435,437,438,440,441,442,443,444,445,447,448,450,451,452,453,454,457,458,459,461,462,464,465,466,468,469,471,472,473,475,476,478,479,480,481,482,483,484,487,497,498,499,500,501,504,514,515,516,517,518,528,530,531,533,534,535,536,537,538,539,540,541,542,545,547,548,550,551,559,561,562,564,565,566,567,568,569,570,573,580,582,583,585,586,587,589,590,592,593,594,595,597,598,600,601,602,603,605,606,608,609,610,612,613,615,616,617,619,620,622,623,624,625,627,628,630,631,632,634,635,637,638,639,641,642,644,645,646,647,649,650,652,653,654,656,657,659,660,661,663,664,666,667,668,670,671,673,674,675,677,678,680,681,682,684,685,687,688,689,690,691,694,696,697,699,700,701,703,704,706,707,708,710,711,713,714,715,717,718,720,721,722,724,725,727,728] (fun _ => by kernel_rfl) [640, 588, 723])
  (case hw => w_witness2)
  k_go0
  all_goals try k_fold
  rename_i w s0 s1 mg mb G Y fa o pm doc ho hgens Xm Vm Tm Bm TEm TWm hcdm ns hs0 hlay0 hL1 hr1 hl2 w6 w5 scr vs w2 hLs ra1 wl1 r01 hI hr2 hc1 hc2 hD1 h1 tk1 ob1 ob2 lef rig X0 X T KB F cd1 cd2 N l0
  have hns : ns.length ≤ 63 := by omega
  have F1 : Fr (ghostOf s1.heap [(644, 640), (592, 588), (727, 723)]) s1.heap.objs.size h1 (fun y => if y = Str.ofString "script" then some (Value.ref scr) else none) := F
  refine' c_lawb w (cc w) (c_loop w) (c_clk1 w) (c_clk2 w) (c_stnew w) (c_limsnew w (c_limnew0 w) (c_limnew1 w) (c_limnew2 w)) (c_itnew1 w) (c_itnew2 w "other") _ _ _ mg mb _ _ scr ⟨h1, _, _, _, _⟩ ob1 ob2 vs ns _ _ _ _ _ _ _ _ _ _ _ _ _ _ _ _ _ _ (by k_is) F1 N lef rig X T KB cd1 cd2 codeHd lifted hI hns l0 ?hQ_z ?hE_z
  case hE_z => passes_own
  case hQ_z =>
    intro h' tk' hfin
    obtain ⟨Lz, mz, Fz⟩ := hfin.f
    have hgr : GrownAll [(644, 640), (592, 588), (727, 723)] h' := ⟨hfin.a, hfin.b, hfin.c, trivial⟩
    refine And.intro ?_ hgr
    show GoodW _ _ _ _ _ (.ok (.ret (.bool _))) _
    refine goodW_bool Fz hgens (raisesW_false ?_) ?_
    · wrow_none_raised
    · first | kc_post | wrow_post
end Mine
theorem PySem.Challenge.cw_jo0040_02_holds : PySem.Challenge.rw_jo0040_02.Holds :=
  Mine.main
