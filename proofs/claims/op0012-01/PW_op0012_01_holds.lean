import PyProof.Rows.All
import Wide.All
import OpenK.AllK
import Wide.FinOn
import PyProof.ListTruth
import PySem.Challenge.RW_op0012_01
set_option Elab.async false
set_option linter.unusedVariables false
section
open PySem PySem.W PySem.W.X PyProof.Rows
namespace Mine
noncomputable abbrev dF : Code → Sem Fin := PySem.W.Fast.tw11892475500146522536 PySem.W.Fast.tw14364793385576792824
theorem dF_eq : denote table = dF := by
  rw [table_eq_tree, PySem.W.Fast.te14364793385576792824, PySem.W.Fast.te11892475500146522536]

/-- what is put is found, or what stood -/
theorem get_put {o x : Obj} : ∀ (n : Nat) {t : KT} {i j : Nat}, (KT.put n t i o).get j = some x → (j = i ∧ x = o) ∨ t.get j = some x
  | 0, _, _, _, h => .inr h
  | n + 1, .nil, i, j, h => by
    unfold KT.put at h
    rw [BT.beq_eq, BT.beq_eq] at h
    by_cases h0 : i = 0
    · subst h0
      rw [decide_eq_true rfl] at h
      dsimp only at h
      rw [KT.get_node] at h
      split at h
      · cases h; exact .inl ⟨by assumption, rfl⟩
      · split at h <;> cases h
    · rw [decide_eq_false h0] at h
      by_cases p : i % 2 = 1
      · rw [decide_eq_true p] at h
        dsimp only at h
        rw [KT.get_node] at h
        split at h
        · cases h
        · split at h
          · rcases get_put n h with ⟨e, rfl⟩ | e
            · exact .inl ⟨by omega, rfl⟩
            · cases e
          · cases h
      · rw [decide_eq_false p] at h
        dsimp only at h
        rw [KT.get_node] at h
        split at h
        · cases h
        · split at h
          · cases h
          · rcases get_put n h with ⟨e, rfl⟩ | e
            · exact .inl ⟨by omega, rfl⟩
            · cases e
  | n + 1, .node v l r, i, j, h => by
    unfold KT.put at h
    rw [BT.beq_eq, BT.beq_eq] at h
    rw [KT.get_node]
    by_cases h0 : i = 0
    · subst h0
      rw [decide_eq_true rfl] at h
      dsimp only at h
      rw [KT.get_node] at h
      split at h
      · cases h; exact .inl ⟨by assumption, rfl⟩
      · rename_i q; exact .inr (by rw [if_neg q]; exact h)
    · rw [decide_eq_false h0] at h
      by_cases p : i % 2 = 1
      · rw [decide_eq_true p] at h
        dsimp only at h
        rw [KT.get_node] at h
        split at h
        · rename_i q; exact .inr (by rw [if_pos q]; exact h)
        · rename_i q
          rw [if_neg q]
          split at h
          · rename_i q1
            rw [if_pos q1]
            rcases get_put n h with ⟨e, rfl⟩ | e
            · exact .inl ⟨by omega, rfl⟩
            · exact .inr e
          · rename_i q1; exact .inr (by rw [if_neg q1]; exact h)
      · rw [decide_eq_false p] at h
        dsimp only at h
        rw [KT.get_node] at h
        split at h
        · rename_i q; exact .inr (by rw [if_pos q]; exact h)
        · rename_i q
          rw [if_neg q]
          split at h
          · rename_i q1; exact .inr (by rw [if_pos q1]; exact h)
          · rename_i q1
            rw [if_neg q1]
            rcases get_put n h with ⟨e, rfl⟩ | e
            · exact .inl ⟨by omega, rfl⟩
            · exact .inr e
/-- a place that is filled is filled anew -/
def kSet : KT → Nat → Obj → KT
  | .nil, _, _ => .nil
  | .node v l r, i, o => match Nat.beq i 0 with
    | true => .node (some o) l r
    | false => match Nat.beq (i % 2) 1 with
      | true => .node v (kSet l (i / 2) o) r
      | false => .node v l (kSet r (i / 2 - 1) o)
theorem get_set {o x : Obj} : ∀ {t : KT} {i j : Nat}, (kSet t i o).get j = some x → (j = i ∧ x = o) ∨ (j ≠ i ∧ t.get j = some x)
  | .nil, _, _, h => by cases h
  | .node v l r, i, j, h => by
    unfold kSet at h
    rw [BT.beq_eq, BT.beq_eq] at h
    rw [KT.get_node]
    by_cases h0 : i = 0
    · subst h0
      rw [decide_eq_true rfl] at h
      dsimp only at h
      rw [KT.get_node] at h
      split at h
      · cases h; exact .inl ⟨by assumption, rfl⟩
      · rename_i q; exact .inr ⟨q, by rw [if_neg q]; exact h⟩
    · rw [decide_eq_false h0] at h
      by_cases p : i % 2 = 1
      · rw [decide_eq_true p] at h
        dsimp only at h
        rw [KT.get_node] at h
        split at h
        · rename_i q; exact .inr ⟨by omega, by rw [if_pos q]; exact h⟩
        · rename_i q
          rw [if_neg q]
          split at h
          · rename_i q1
            rw [if_pos q1]
            rcases get_set h with ⟨e, rfl⟩ | ⟨ne, e⟩
            · exact .inl ⟨by omega, rfl⟩
            · exact .inr ⟨by omega, e⟩
          · rename_i q1; exact .inr ⟨by omega, by rw [if_neg q1]; exact h⟩
      · rw [decide_eq_false p] at h
        dsimp only at h
        rw [KT.get_node] at h
        split at h
        · rename_i q; exact .inr ⟨by omega, by rw [if_pos q]; exact h⟩
        · rename_i q
          rw [if_neg q]
          split at h
          · rename_i q1; exact .inr ⟨by omega, by rw [if_pos q1]; exact h⟩
          · rename_i q1
            rw [if_neg q1]
            rcases get_set h with ⟨e, rfl⟩ | ⟨ne, e⟩
            · exact .inl ⟨by omega, rfl⟩
            · exact .inr ⟨by omega, e⟩

/-- what is known of a heap: its size, the old objects (the library's Rep without a tree), some of the call's own objects -/
structure RepK (V : XV) (h : Heap) (T : KT) (m : Nat) (ch : Ch) : Prop where
  base : ∃ k, m = V.n₁ + k ∧ Rep V h .nil k ch
  own : ∀ a o, T.get a = some o → V.n₁ ≤ a ∧ h.get? a = some o
def lookK (V : XV) (T : KT) (ch : Ch) (a : Addr) : Option Obj := match Nat.blt a V.n₁ with
  | true => match chLook ch a with
    | some vs => some (tableObj vs)
    | none => V.kt.get a
  | false => T.get a
section
variable {V : XV} {h : Heap} {T : KT} {m : Nat} {ch : Ch}
theorem RepK.size (D : RepK V h T m ch) : h.objs.size = m := by
  obtain ⟨k, e, B⟩ := D.base
  rw [B.size, e]
theorem RepK.low (D : RepK V h T m ch) : V.n₁ ≤ m := by
  obtain ⟨k, e, _⟩ := D.base
  omega
theorem RepK.look (O : V.Ok) (D : RepK V h T m ch) {a : Addr} {o : Obj} (e : lookK V T ch a = some o) : h.get? a = some o := by
  unfold lookK at e
  cases q : Nat.blt a V.n₁ with
  | true =>
    rw [q] at e
    obtain ⟨k, _, B⟩ := D.base
    refine B.look O (a := a) ?_
    unfold X.look
    rw [q]
    exact e
  | false =>
    rw [q] at e
    exact (D.own _ _ e).2
/-- less may be known -/
theorem RepK.less (D : RepK V h T m ch) {T' : KT} (H : ∀ a o, T'.get a = some o → T.get a = some o) : RepK V h T' m ch := ⟨D.base, fun a o e => D.own a o (H a o e)⟩
theorem RepK.alloc (D : RepK V h T m ch) {o : Obj} (hf : o.isFreed = false) : RepK V (h.push o) (KT.put 40 T m o) (m + 1) ch := by
  obtain ⟨k, e, B⟩ := D.base
  have up : ∀ {b : Addr} {x : Obj}, h.get? b = some x → (h.push o).get? b = some x := fun e => Heap.get?_push_of_some _ e
  refine ⟨⟨k + 1, by omega, ?_, fun _ _ q => (nomatch q), fun b x q r => up (B.keep b x q r), fun a vs q => ⟨up (B.ch a vs q).1, (B.ch a vs q).2⟩⟩, fun a x q => ?_⟩
  · rw [Heap.size_push, B.size, Nat.add_assoc]
  · rcases get_put 40 q with ⟨rfl, rfl⟩ | q
    · refine ⟨D.low, ?_⟩
      have z := Heap.get?_push_size h hf
      rwa [D.size] at z
    · exact ⟨(D.own _ _ q).1, up (D.own _ _ q).2⟩
theorem RepK.update (O : V.Ok) (D : RepK V h T m ch) {a : Addr} {o : Obj} {f : Obj → Obj} (ha : V.n₁ ≤ a) (e : T.get a = some o) (hf : (f o).isFreed = false) : RepK V (h.update a f) (kSet T a (f o)) m ch := by
  obtain ⟨k, em, B⟩ := D.base
  have z := (D.own _ _ e).2
  have hs : Heap.SameBut a h (h.update a f) := Heap.SameBut.update ..
  have old : ∀ {b : Addr} {x : Obj}, V.h₀.get? b = some x → b ≠ a := fun q => Nat.ne_of_lt (Nat.lt_of_lt_of_le (Rep.oldLt O q) ha)
  refine ⟨⟨k, em, by rw [hs.1, B.size], fun _ _ q => (nomatch q), fun b x q r => (hs.2 b (old q)).trans (B.keep b x q r), fun b vs q => ?_⟩, fun b x q => ?_⟩
  · obtain ⟨y, c, ps, more, ht, hv⟩ := B.ch b vs q
    exact ⟨(hs.2 b (old ht.2)).trans y, c, ps, more, ht, hv⟩
  · rcases get_set q with ⟨rfl, rfl⟩ | ⟨ne, q⟩
    · refine ⟨ha, ?_⟩
      first | exact Heap.get?_update_self f z hf | exact Heap.get?_update_self _ z hf
    · exact ⟨(D.own _ _ q).1, (hs.2 b ne).trans (D.own _ _ q).2⟩
theorem RepK.table (O : V.Ok) (D : RepK V h T m ch) {a : Addr} {f : Obj → Obj} {vs vs' : Array Value} {more : List Value} (la : a < V.n₁) (e : nowTab V ch a = some vs) (hn : f (tableObj vs) = tableObj vs') (hm : strip vs.toList vs'.toList = some more) :
    h.get? a = some (tableObj vs) ∧ RepK V (h.update a f) T m (chPut ch a vs') := by
  obtain ⟨k, em, B⟩ := D.base
  obtain ⟨z, B'⟩ := B.table O e hn hm
  have hs : Heap.SameBut a h (h.update a f) := Heap.SameBut.update ..
  exact ⟨z, ⟨k, em, B'⟩, fun b x q => ⟨(D.own _ _ q).1, (hs.2 b (Nat.ne_of_gt (Nat.lt_of_lt_of_le la (D.own _ _ q).1))).trans (D.own _ _ q).2⟩⟩
theorem RepK.oldK (O : V.Ok) (D : RepK V h T m ch) : OldK V.h₀ h := by
  obtain ⟨_, _, B⟩ := D.base
  exact B.oldK O
theorem RepK.start (O : V.Ok) : RepK V V.h₀ .nil V.n₁ [] := ⟨⟨0, rfl, Rep.start O⟩, fun _ _ e => (nomatch e)⟩
end
end Mine
end
section
open PySem PySem.W PySem.W.X PyProof.Rows
namespace Mine
/-- what waits for a call's end, in full -/
inductive KX where
  | base
  | ret (Γ : PySem.Ctx) (p : Pos) (k : Result → Sem Fin) (κ : KX)
def endX (V : XV) : KX → Result → Shared → Prop
  | .base => V.R₀
  | .ret Γ p k κ => fun r s => Sem.wp (model V.prog V.w) Γ (k r) (Sem.finPost (model V.prog V.w) Γ (endX V κ)) (fun e _ s' => endX V κ (.error e) s') p s
/-- a tree's promise in one context, at one place -/
def MX (V : XV) (Γ : PySem.Ctx) (p : Pos) (κ : KX) (t : Sem Fin) (s : Shared) : Prop :=
  Sem.wp (model V.prog V.w) Γ t (Sem.finPost (model V.prog V.w) Γ (endX V κ)) (fun e _ s' => endX V κ (.error e) s') p s
/-- what a configuration promises, at a count of tokens -/
def GoX (V : XV) (Γ : PySem.Ctx) (p : Pos) (κ : KX) (t : Sem Fin) (T : KT) (m i : Nat) (ch : Ch) : Prop :=
  ∀ h, RepK V h T m ch → MX V Γ p κ t ⟨h, ⟨[]⟩, V.d, V.t₀ + i, V.os⟩
section
variable {V : XV} {Γ : PySem.Ctx} {p : Pos} {κ : KX} {T : KT} {m i : Nat} {ch : Ch}
theorem wx_code {Γ : PySem.Ctx} {R : Result → Shared → Prop} {p : Pos} {s : Shared} (h : Sem.wp (model V.prog V.w) Γ (dF Γ.code) (Sem.finPost (model V.prog V.w) Γ R) (fun e _ s' => R (.error e) s') p s) : wpCode (model V.prog V.w) Γ R p s := by
  rw [wpCode_iff_wp]
  rw [← dF_eq] at h
  exact h
theorem gx_rule {r : String} {k : Unit → Sem Fin} (H : GoX V Γ p κ (k ()) T m i ch) : GoX V Γ p κ (.rule r k) T m i ch := fun h D => by unfold MX; rw [Sem.wp_rule]; exact H h D
theorem gx_at {q : Pos} {k : Unit → Sem Fin} (H : GoX V Γ q κ (k ()) T m i ch) : GoX V Γ p κ (.at q k) T m i ch := fun h D => by unfold MX; rw [Sem.wp_at]; exact H h D
theorem gx_point {l : List Value} {k : Unit → Sem Fin} (H : GoX V Γ p κ (k ()) T m i ch) : GoX V Γ p κ (.point l k) T m i ch := fun h D => by unfold MX; rw [Sem.wp_point]; exact H h D
theorem gx_ask {k : Setting → Sem Fin} (H : GoX V Γ p κ (k ⟨V.prog, V.w.params⟩) T m i ch) : GoX V Γ p κ (.ask k) T m i ch := fun h D => by unfold MX; rw [Sem.wp_ask]; exact H h D
theorem gx_fresh {k : Tok → Sem Fin} (H : GoX V Γ p κ (k (V.t₀ + i)) T m (i + 1) ch) : GoX V Γ p κ (.fresh k) T m i ch := fun h D => by unfold MX; rw [Sem.wp_fresh]; exact H h D
theorem gx_load {a : Addr} {q : Option Value} {k : Obj → Sem Fin} {o : Obj} (ho : ∀ h, RepK V h T m ch → h.get? a = some o) (H : GoX V Γ p κ (k o) T m i ch) : GoX V Γ p κ (.load a q k) T m i ch := fun h D => by
  unfold MX; rw [Sem.wp_load]; exact ⟨o, ho h D, H h D⟩
theorem gx_alive {a : Addr} {k : Option Obj → Sem Fin} {o : Obj} (ho : ∀ h, RepK V h T m ch → h.get? a = some o) (H : GoX V Γ p κ (k (some o)) T m i ch) : GoX V Γ p κ (.loadIfAlive a k) T m i ch := fun h D => by
  unfold MX; rw [Sem.wp_loadIfAlive]
  show Sem.wp _ _ (k (h.get? a)) _ _ _ _
  rw [ho h D]; exact H h D
theorem gx_alloc {o : Obj} {k : Addr → Sem Fin} (hf : o.isFreed = false) (H : GoX V Γ p κ (k m) (KT.put 40 T m o) (m + 1) i ch) : GoX V Γ p κ (.alloc o k) T m i ch := fun h D => by
  unfold MX; rw [Sem.wp_alloc]
  show Sem.wp _ _ (k h.objs.size) _ _ _ _
  rw [D.size]; exact H _ (D.alloc hf)
theorem gx_update {a : Addr} {q : Option Value} {f : Obj → Obj} {k : Unit → Sem Fin} {T' : KT} {ch' : Ch} (ho : ∀ h, RepK V h T m ch → ∃ o, h.get? a = some o ∧ RepK V (h.update a f) T' m ch')
    (H : GoX V Γ p κ (k ()) T' m i ch') : GoX V Γ p κ (.update a q f k) T m i ch := fun h D => by
  obtain ⟨o, e, D'⟩ := ho h D
  unfold MX; rw [Sem.wp_update]; exact ⟨by show (h.get? a).isSome = true; rw [e]; rfl, H _ D'⟩
theorem gx_handled {own : Bool} {k : Option Value → Sem Fin} (H : GoX V Γ p κ (k (if own then Γ.own else Γ.handled)) T m i ch) : GoX V Γ p κ (.handled own k) T m i ch := fun h D => by unfold MX; rw [Sem.wp_handled]; exact H h D
theorem gx_stack {k : List (Code × Pos) → Sem Fin} (H : GoX V Γ p κ (k ((Γ.code, p) :: Γ.below)) T m i ch) : GoX V Γ p κ (.stack k) T m i ch := fun h D => by unfold MX; rw [Sem.wp_stack]; exact H h D
theorem gx_call {c' : Code} {hd : Option Value} {g : Bool} {l : List Value} {k : Result → Sem Fin} (H : GoX V (Γ.enter c' hd p) p (.ret Γ p k κ) (dF c') T m i ch) : GoX V Γ p κ (.call c' hd g l k) T m i ch := fun h D => by
  unfold MX; rw [Sem.wp_call]; exact wx_code (Γ := Γ.enter c' hd p) (H h D)
theorem gx_again {c' : Code} (q : c'.quiet = true) (H : GoX V (Γ.goto c') p κ (dF c') T m i ch) : GoX V Γ p κ (.pure (.again c')) T m i ch := fun h D => by
  unfold MX; rw [Sem.wp_pure]; exact ⟨q, wx_code (Γ := Γ.goto c') (H h D)⟩
theorem gx_end {r : Result} (H : ∀ h, RepK V h T m ch → endX V κ r ⟨h, ⟨[]⟩, V.d, V.t₀ + i, V.os⟩) : GoX V Γ p κ (leafOf r) T m i ch := fun h D => by
  cases r with
  | ok f => show Sem.wp _ _ (Sem.pure _) _ _ _ _; rw [Sem.wp_pure]; exact H h D
  | error e => show Sem.wp _ _ (Sem.raise _) _ _ _ _; rw [Sem.wp_raise]; exact H h D
theorem gx_ret {Γ' : PySem.Ctx} {q : Pos} {k : Result → Sem Fin} {r : Result} (H : GoX V Γ' q κ (k r) T m i ch) : GoX V Γ p (.ret Γ' q k κ) (leafOf r) T m i ch := gx_end fun h D => H h D
end
/-- every context lies in an around -/
theorem in_some (Γ : PySem.Ctx) : Γ.In ⟨Γ.handled, frameCount Γ.below + Γ.code.weight, none, none, Γ.units⟩ := ⟨rfl, Nat.le_refl _, fun _ h => (nomatch h), fun _ h => (nomatch h), Nat.le_refl _⟩
/-- by a rule for any context: the place behind is not told -/
theorem gx_any {V : XV} {Γ : PySem.Ctx} {p : Pos} {κ : KX} {t : Sem Fin} {T : KT} {m i : Nat} {ch : Ch}
    (H : ∀ h, RepK V h T m ch → ∀ A, Γ.In A → wpAny (model V.prog V.w) A t (fun fin s => ∀ p', Sem.finPost (model V.prog V.w) Γ (endX V κ) fin p' s) (fun e s => endX V κ (.error e) s) ⟨h, ⟨[]⟩, V.d, V.t₀ + i, V.os⟩) : GoX V Γ p κ t T m i ch := fun h D => by
  have z := H h D _ (in_some Γ) Γ p (in_some Γ)
  exact Sem.wp_mono _ _ _ (fun fin p' s q => q p') (fun _ _ _ q => q) _ _ z
/-- what the run is not told: a place, the count of tokens, a token, many tokens -/
structure Un1 where
  pos : Pos
  i : Nat
  tk : Nat
  tau : Nat → Nat
def un0 : Un1 := ⟨default, 0, 0, fun _ => 0⟩
abbrev Un := Nat → Un1
def askK : Sem Fin → Setting → Sem Fin
  | .ask k, st => k st
  | _, _ => .unsupported "Mine"
/-- the world's answer, with one word for every row -/
abbrev setB (V : XV) (b : Bool) : Setting := ⟨V.prog, { V.w.params with followText := fun _ => b }⟩
/-- an ask that reads one row alone -/
abbrev askRow (V : XV) (r : String) (t : Sem Fin) : Sem Fin := .ask fun st => askK t (setB V (st.params.followText r))
section
variable {V : XV} {Γ : PySem.Ctx} {p : Pos} {κ : KX} {T : KT} {m i : Nat} {ch : Ch} {t : Sem Fin} {r : String}
theorem gx_rowIs {b : Bool} (hb : V.w.params.followText r = b) (e : t = askRow V r t) (H : GoX V Γ p κ (askK t (setB V b)) T m i ch) : GoX V Γ p κ t T m i ch := by
  rw [e]
  refine gx_ask ?_
  show GoX V Γ p κ (askK t (setB V (V.w.params.followText r))) T m i ch
  rw [hb]
  exact H
theorem gx_row (e : t = askRow V r t) (e2 : askK t (setB V true) = askK t (setB V false)) (H : GoX V Γ p κ (askK t (setB V true)) T m i ch) : GoX V Γ p κ t T m i ch := by
  cases hb : V.w.params.followText r with
  | true => exact gx_rowIs hb e H
  | false => exact gx_rowIs hb e (e2 ▸ H)
theorem gx_habit {k' : Tok → Sem Fin} {tok : Nat} (e : t = askRow V r t) (e1 : askK t (setB V true) = .fresh k') (e2 : askK t (setB V false) = k' tok)
    (H : ∀ tk i', GoX V Γ p κ (k' tk) T m i' ch) : GoX V Γ p κ t T m i ch := by
  cases hb : V.w.params.followText r with
  | true =>
    refine gx_rowIs hb e ?_
    rw [e1]
    exact gx_fresh (H _ _)
  | false => exact gx_rowIs hb e (e2 ▸ H _ _)
end
/-- iterators that are their own iterator -/
inductive ItK where
  | list
  | ascii
  | range
def ItK.name : ItK → String
  | .list => "list_iterator"
  | .ascii => "str_ascii_iterator"
  | .range => "range_iterator"
section
variable {prog : Program} {w : World} {A : Around} {E : Value → Shared → Prop} {s : Shared} {a : Addr} {Q : Value → Shared → Prop}
theorem iter_list (hT : s.TypeIs (.ref a) "list_iterator") (h : Q (.ref a) s) : wpAny (model prog w) A (pyIter (.ref a)) Q E s := by
  refine wpAny_pyIter_slot hT slot_listiter_iter (wpAny_call_entry slot_listiter_iter hT entry_listiter_iter ?_ (args_listiter_iter _))
  show wpAny _ _ (ret (.ref a)) _ _ s
  exact wpAny_pure ⟨_, rfl, "list_iterator", _, hT, slot_listiter_next.lookup, h⟩
theorem iter_ascii (hT : s.TypeIs (.ref a) "str_ascii_iterator") (h : Q (.ref a) s) : wpAny (model prog w) A (pyIter (.ref a)) Q E s := by
  refine wpAny_pyIter_slot hT F.slot_str_ascii_iterator_iter (wpAny_call_entry F.slot_str_ascii_iterator_iter hT F.entry_str_ascii_iterator_iter ?_ (F.args_str_ascii_iterator_iter_1 _))
  show wpAny _ _ (ret (.ref a)) _ _ s
  exact wpAny_pure ⟨_, rfl, "str_ascii_iterator", _, hT, F.slot_str_ascii_iterator_next.lookup, h⟩
theorem iter_range (hT : s.TypeIs (.ref a) "range_iterator") (h : Q (.ref a) s) : wpAny (model prog w) A (pyIter (.ref a)) Q E s := by
  refine wpAny_pyIter_slot hT F.slot_range_iterator_iter (wpAny_call_entry F.slot_range_iterator_iter hT F.entry_range_iterator_iter ?_ (F.args_range_iterator_iter_1 _))
  show wpAny _ _ (ret (.ref a)) _ _ s
  exact wpAny_pure ⟨_, rfl, "range_iterator", _, hT, F.slot_range_iterator_next.lookup, h⟩
end
theorem gx_comp {V : XV} {Γ : PySem.Ctx} {p : Pos} {κ : KX} {T : KT} {m i : Nat} {ch : Ch} {elt target iter : Expr} {ifs : List Expr} {rest : List Comprehension} {scope : Scope} {pos : Pos} {a : Addr} {acc : Value} {env : Env} {k : ItK}
    (hit : ∀ h, RepK V h T m ch → ∃ o, h.get? a = some o ∧ o.cls = .type k.name)
    (H : ∀ p', GoX V (Γ.goto (.compLoop (.ListComp elt (⟨target, iter, ifs, 0⟩ :: rest) scope pos) 0 (.ref a) acc env)) p' κ (dF (.compLoop (.ListComp elt (⟨target, iter, ifs, 0⟩ :: rest) scope pos) 0 (.ref a) acc env)) T m i ch) :
    GoX V Γ p κ (dF (.compStart (.ListComp elt (⟨target, iter, ifs, 0⟩ :: rest) scope pos) 0 (.ref a) acc env)) T m i ch := by
  rw [← dF_eq]
  refine gx_any fun h D A hA => ?_
  have g' : ∀ p', wpCode (model V.prog V.w) (Γ.goto (.compLoop (.ListComp elt (⟨target, iter, ifs, 0⟩ :: rest) scope pos) 0 (.ref a) acc env)) (endX V κ) p' ⟨h, ⟨[]⟩, V.d, V.t₀ + i, V.os⟩ := fun p' => wx_code (H p' h D)
  show wpAny _ _ ((compStart (.ListComp elt (⟨target, iter, ifs, 0⟩ :: rest) scope pos) 0 (.ref a) acc env).onRaise (fun x => do noteFrame x env; standAt theWindowsPlace)) _ _ _
  refine wpAny_notedAt ?_
  unfold compStart
  show wpAny _ _ (ask >>= _) _ _ _
  refine wpAny_bind (wpAny_askSetting (wpAny_ite ?_))
  split
  · first
      | exact wpAny_bind (wpAny_pure (wpAny_pure fun p' => And.intro rfl (g' p')))
      | exact wpAny_pure fun p' => And.intro rfl (g' p')
  · have key : wpAny (model V.prog V.w) A (pyIter (.ref a))
        (fun it' s' => ∀ p', wpCode (model V.prog V.w) (Γ.goto (.compLoop (.ListComp elt (⟨target, iter, ifs, 0⟩ :: rest) scope pos) 0 it' acc env)) (endX V κ) p' s')
        (notedBy (model V.prog V.w) A env (fun e s => endX V κ (.error e) s)) ⟨h, ⟨[]⟩, V.d, V.t₀ + i, V.os⟩ := by
      obtain ⟨o, e, hc⟩ := hit h D
      cases k with
      | list => exact iter_list ⟨o, e, hc⟩ g'
      | ascii => exact iter_ascii ⟨o, e, hc⟩ g'
      | range => exact iter_range ⟨o, e, hc⟩ g'
    first
      | exact wpAny_bind (wpAny_rule (wpAny_bind (wpAny_standAt (wpAny_bind (wpAny_mono key (fun it' s' h' => wpAny_pure fun p' => And.intro rfl (h' p')) fun _ _ x => x)))))
      | (refine wpAny_bind (wpAny_rule ?_); show wpAny _ _ (standAt iter.pos >>= _) _ _ _; exact wpAny_bind (wpAny_standAt (wpAny_bind (wpAny_mono key (fun it' s' h' => wpAny_pure fun p' => And.intro rfl (h' p')) fun _ _ x => x))))
set_option maxRecDepth 20000 in
/-- a list's comparison goes past a pair of equal ints -/
theorem gx_eqL {V : XV} {Γ : PySem.Ctx} {pp : Pos} {a b : Addr} {i code : Int} {ti tc : Tok} {κ : KX} {T : KT} {m n : Nat} {ch : Ch} {p : Int} (hc : code.toNat < 6)
    (hx : ∀ h, RepK V h T m ch → ∃ o xs k t, h.get? a = some o ∧ o.data = .seq xs k ∧ (xs[i.toNat]? : Option Value) = some (.int p t))
    (hy : ∀ h, RepK V h T m ch → ∃ o xs k t, h.get? b = some o ∧ o.data = .seq xs k ∧ (xs[i.toNat]? : Option Value) = some (.int p t))
    (H : ∀ p', GoX V (Γ.goto (.builtin "list.__eq__.loop" ⟨[.ref a, .ref b, rawInt (i + 1), rawInt code], []⟩)) p' κ (dF (.builtin "list.__eq__.loop" ⟨[.ref a, .ref b, rawInt (i + 1), rawInt code], []⟩)) T m n ch) :
    GoX V Γ pp κ (dF (.builtin "list.__eq__.loop" ⟨[.ref a, .ref b, .int i ti, .int code tc], []⟩)) T m n ch := by
  rw [← dF_eq]
  refine gx_any fun h D A hA => ?_
  have g' : ∀ p', wpCode (model V.prog V.w) (Γ.goto (.builtin "list.__eq__.loop" ⟨[.ref a, .ref b, rawInt (i + 1), rawInt code], []⟩)) (endX V κ) p' ⟨h, ⟨[]⟩, V.d, V.t₀ + n, V.os⟩ := fun p' => wx_code (H p' h D)
  simp only [denote, MeetsSeq3.entry_eq_loop]
  obtain ⟨ox, xs, kx, tx, ex, dx, gx⟩ := hx h D
  obtain ⟨oy, ys, ky, ty, ey, dy, gy⟩ := hy h D
  simp only [Builtin.«list.__eq__.loop»]
  split
  · refine wpAny_bind (wpAny_listItems ex dx (wpAny_bind (wpAny_listItems ey dy ?_)))
    rw [gx, gy]
    refine wpAny_bind (wpAny_eqBool_int ?_)
    rw [show (p == p) = true from by simp]
    refine wpAny_pure fun p' => ⟨?_, g' p'⟩
    exact Code.quiet_builtin _ (by decide +kernel)
  · rename_i hn
    exfalso
    have : code.toNat = 0 ∨ code.toNat = 1 ∨ code.toNat = 2 ∨ code.toNat = 3 ∨ code.toNat = 4 ∨ code.toNat = 5 := by omega
    rcases this with e | e | e | e | e | e <;> rw [e] at hn <;> first | exact hn _ rfl | exact Option.noConfusion hn
theorem dF_builtin {id : String} {b : Builtin} (h : entryFor table id = some b) (args : Args) : dF (.builtin id args) = b args := by
  rw [← dF_eq]
  simp only [denote, h]
end Mine
end
section
open PySem PySem.W PySem.W.X PyProof.Rows
namespace Mine
/-- what the runs of one segment share -/
structure Cx where
  V : XV
  i₀ : Nat
  τ : Nat → Nat
  υ : Un
/-- how a token is told -/
inductive Tk where
  | lit (n : Nat)
  | cnt (j : Nat)
  | un (n j : Nat)
  | val (n : Nat)
  | tau (n j : Nat)
  | var (j : Nat)
def Tk.of (X : Cx) : Tk → Nat
  | .lit n => n
  | .cnt j => X.V.t₀ + (X.i₀ + j)
  | .un n j => X.V.t₀ + ((X.υ n).i + j)
  | .val n => (X.υ n).tk
  | .tau n j => (X.υ n).tau j
  | .var j => X.τ j
/-- how the tokens of a run are told, by their numbers: those of the start, those that came since -/
inductive Sg where
  | cnt
  | un (n : Nat)
  | tau (n : Nat)
  | lit (n : Nat)
  | off (o : Nat)
structure TSpec where
  base : Option Nat
  segs : List (Nat × Sg)
def TSpec.go (X : Cx) (b : Option Nat) (j : Nat) : List (Nat × Sg) → Nat
  | [] => match b with
    | none => X.τ j
    | some n => (X.υ n).tau j
  | (x, c) :: l => match Nat.ble x j with
    | true => match c with
      | .cnt => X.V.t₀ + (X.i₀ + (j - x))
      | .un n => X.V.t₀ + ((X.υ n).i + (j - x))
      | .tau n => (X.υ n).tau j
      | .lit n => n
      | .off o => X.V.t₀ + (X.i₀ + o)
    | false => TSpec.go X b j l
def TSpec.of (X : Cx) (s : TSpec) (j : Nat) : Nat := TSpec.go X s.base j s.segs
def ktOf (l : List (Addr × Obj)) : KT := l.foldl (fun t p => KT.put 40 t p.1 p.2) .nil
theorem get_fold {a : Addr} {o : Obj} : ∀ (l : List (Addr × Obj)) (t : KT), (l.foldl (fun t p => KT.put 40 t p.1 p.2) t).get a = some o → (a, o) ∈ l ∨ t.get a = some o
  | [], _, e => .inr e
  | (b, x) :: l, t, e => by
    rcases get_fold l _ e with h | h
    · exact .inl (.tail _ h)
    · rcases get_put 40 h with ⟨rfl, rfl⟩ | h
      · exact .inl (.head _)
      · exact .inr h
theorem get_ktOf {a : Addr} {o : Obj} {l : List (Addr × Obj)} (e : (ktOf l).get a = some o) : (a, o) ∈ l := by
  rcases get_fold l _ e with h | h
  · exact h
  · cases h
/-- a contract: from a configuration with a bare end to a flow -/
structure Ctr where
  ctx : (Nat → Nat) → PySem.Ctx
  tree : (Nat → Nat) → Sem Fin
  pre : (Nat → Nat) → List (Addr × Obj)
  preCh : (Nat → Nat) → Ch
  m : Nat
  flow : (Nat → Nat) → Flow
  post : (Nat → Nat) → List (Addr × Obj)
  postCh : (Nat → Nat) → Ch
  m' : Nat
/-- another end -/
def cutV (V : XV) (R : Result → Shared → Prop) : XV := { V with R₀ := R }
theorem RepK.cut {V : XV} {R : Result → Shared → Prop} {h : Heap} {T : KT} {m : Nat} {ch : Ch} (D : RepK V h T m ch) : RepK (cutV V R) h T m ch := by
  obtain ⟨⟨k, e, B⟩, ow⟩ := D
  exact ⟨⟨k, e, ⟨B.size, B.own, B.keep, B.ch⟩⟩, ow⟩
theorem RepK.uncut {V : XV} {R : Result → Shared → Prop} {h : Heap} {T : KT} {m : Nat} {ch : Ch} (D : RepK (cutV V R) h T m ch) : RepK V h T m ch := by
  obtain ⟨⟨k, e, B⟩, ow⟩ := D
  exact ⟨⟨k, e, ⟨B.size, B.own, B.keep, B.ch⟩⟩, ow⟩
theorem okCut {V : XV} {R : Result → Shared → Prop} (O : V.Ok) : (cutV V R).Ok := ⟨O.size, O.kt, O.tabs⟩
/-- what is handed on behind a contract -/
def Ctr.Then (V : XV) (q : Ctr) (R : Result → Shared → Prop) : Prop :=
  ∀ τ' i' h, RepK V h (ktOf (q.post τ')) q.m' (q.postCh τ') → R (.ok (q.flow τ')) ⟨h, ⟨[]⟩, V.d, V.t₀ + i', V.os⟩
def Ctr.Ok (V : XV) (q : Ctr) : Prop := ∀ (R : Result → Shared → Prop) (p : Pos) (τ : Nat → Nat) (i : Nat), q.Then V R → GoX (cutV V R) (q.ctx τ) p .base (q.tree τ) (ktOf (q.pre τ)) q.m i (q.preCh τ)
theorem gx_ctr {V : XV} {q : Ctr} (K : q.Ok V) {τ : Nat → Nat} {p : Pos} {κ : KX} {T : KT} {i : Nat} (hT : ∀ p ∈ q.pre τ, T.get p.1 = some p.2) (H : q.Then V (endX V κ)) :
    GoX V (q.ctx τ) p κ (q.tree τ) T q.m i (q.preCh τ) :=
  fun h D => K (endX V κ) p τ i H h (RepK.cut (R := endX V κ) (D.less fun a o e => hT _ (get_ktOf e)))

/-- a call that leaves what stood as it stood -/
structure FnC where
  ctx : (Nat → Nat) → PySem.Ctx
  m : Nat
  flow : (Nat → Nat) → Flow
  m' : Nat
  ch : (Nat → Nat) → Ch
  pre : (Nat → Nat) → List (Addr × Obj)
structure FnC.Ok (V : XV) (q : FnC) : Prop where
  up : q.m ≤ q.m'
  run : ∀ (R : Result → Shared → Prop) (p : Pos) (τ : Nat → Nat) (i : Nat) (h₁ : Heap), RepK V h₁ (ktOf (q.pre τ)) q.m (q.ch τ) →
    (∀ τ' i' h, h.objs.size = q.m' → (∀ a o, h₁.get? a = some o → h.get? a = some o) → R (.ok (q.flow τ')) ⟨h, ⟨[]⟩, V.d, V.t₀ + i', V.os⟩) →
    MX (cutV V R) (q.ctx τ) p .base (dF (q.ctx τ).code) ⟨h₁, ⟨[]⟩, V.d, V.t₀ + i, V.os⟩
theorem RepK.frame {V : XV} {h h' : Heap} {T : KT} {m m' : Nat} {ch : Ch} (D : RepK V h T m ch) (hm : m ≤ m') (hs : h'.objs.size = m') (hk : ∀ a o, h.get? a = some o → h'.get? a = some o) : RepK V h' T m' ch := by
  obtain ⟨⟨k, e, B⟩, ow⟩ := D
  refine ⟨⟨m' - V.n₁, by omega, ⟨by omega, fun _ _ q => (nomatch q), fun b o q r => hk _ _ (B.keep b o q r), fun a vs q => ⟨hk _ _ (B.ch a vs q).1, (B.ch a vs q).2⟩⟩⟩, fun a o q => ⟨(ow a o q).1, hk _ _ (ow a o q).2⟩⟩
theorem gx_fn {V : XV} {q : FnC} (K : q.Ok V) {τ : Nat → Nat} {p p' : Pos} {Γ' : PySem.Ctx} {k : Result → Sem Fin} {κ : KX} {T : KT} {i : Nat} (hT : ∀ p ∈ q.pre τ, T.get p.1 = some p.2) (H : ∀ τ' i', GoX V Γ' p' κ (k (.ok (q.flow τ'))) T q.m' i' (q.ch τ)) :
    GoX V (q.ctx τ) p (.ret Γ' p' k κ) (dF (q.ctx τ).code) T q.m i (q.ch τ) := fun h D =>
  K.run (endX V (.ret Γ' p' k κ)) p τ i h (D.less fun a o e => hT _ (get_ktOf e)) fun τ' i' h' hs hk => H τ' i' h' (D.frame K.up hs hk)
/-- one side of what is to be shown -/
inductive Side where
  | tree (t : Sem Fin)
  | code (c : Code)
  | word (w : String)
  | ctx (Γ : PySem.Ctx)
  | state (ch : Ch) (m : Nat) (l : List (Option Obj))
abbrev Obs := List (Side × Side)
/-- where a run may stop -/
inductive Res where
  | fin (f : Flow) (T : KT) (m i : Nat) (ch : Ch)
  | at (Γ : PySem.Ctx) (p : Pos) (κ : KX) (t : Sem Fin) (T : KT) (m i : Nat) (ch : Ch)
abbrev OutT := Option (Res × Obs)
abbrev GoT := PySem.Ctx → Pos → KX → Sem Fin → KT → Nat → Nat → Nat → Ch → OutT
abbrev GoT' := PySem.Ctx → Pos → KX → Sem Fin → KT → Nat → Nat → Nat → Ch → Obs → OutT
/-- a value's token -/
def Value.tokOf : Value → Nat
  | .int _ t => t
  | .float _ t => t
  | .str _ t => t
  | .bytes _ t => t
  | _ => 0
def tokAt : List Value → Nat → Nat
  | [], _ => 0
  | v :: _, 0 => Mine.Value.tokOf v
  | _ :: l, j + 1 => tokAt l j
/-- a built-in's tree at arguments of this make, whatever their tokens -/
structure BI where
  id : String
  args : (Nat → Nat) → List Value
  tr : (Nat → Nat) → Sem Fin
  ok : ∀ τ {V : XV} {Γ : PySem.Ctx} {p : Pos} {κ : KX} {T : KT} {m i : Nat} {ch : Ch}, GoX V Γ p κ (tr τ) T m i ch → GoX V Γ p κ (dF (.builtin id ⟨args τ, []⟩)) T m i ch
theorem go_eq {t t' : Sem Fin} (e : t = t') {V : XV} {Γ : PySem.Ctx} {p : Pos} {κ : KX} {T : KT} {m i : Nat} {ch : Ch} (H : GoX V Γ p κ t' T m i ch) : GoX V Γ p κ t T m i ch := by rw [e]; exact H
/-- a tree for its like -/
structure RI where
  tm : Sem Fin
  t' : Sem Fin
  ok : tm = t'
/-- what is done beside a plain step, at a written number of steps left -/
inductive Act where
  | bi (b : BI)
  | repl (r : RI)
  | row (r : String)
  | comp (k : ItK)
  | habit (r : String) (tok : Tk)
  | eqL
  | meet
  | ctr (q : Ctr) (l : TSpec)
  | fn (q : FnC) (l : TSpec)
/-- a plain step, handing on -/
noncomputable def stepC (X : Cx) (ob : Obs) (Γ : PySem.Ctx) (p : Pos) (κ : KX) (t : Sem Fin) (T : KT) (m ib il : Nat) (ch : Ch) (go : GoT) : OutT := match t with
  | .pure fn => match fn with
    | .done f => match κ with
      | .ret Γ' q k κ' => go Γ' q κ' (k (.ok f)) T m ib il ch
      | .base => some (.fin f T m (ib + il) ch, ob)
    | .again c' => match c'.quiet with
      | true => go (Γ.goto c') p κ (dF c') T m ib il ch
      | false => none
  | .raise e => match κ with
      | .ret Γ' q k κ' => go Γ' q κ' (k (.error e)) T m ib il ch
      | _ => none
  | .rule _ k => go Γ p κ (k ()) T m ib il ch
  | .at q k => go Γ q κ (k ()) T m ib il ch
  | .point _ k => go Γ p κ (k ()) T m ib il ch
  | .ask k => go Γ p κ (k ⟨X.V.prog, X.V.w.params⟩) T m ib il ch
  | .load a _ k => match lookK X.V T ch a with
    | some o => go Γ p κ (k o) T m ib il ch
    | none => none
  | .loadIfAlive a k => match lookK X.V T ch a with
    | some o => go Γ p κ (k (some o)) T m ib il ch
    | none => none
  | .alloc o k => match o.isFreed with
    | true => none
    | false => go Γ p κ (k m) (KT.put 40 T m o) (m + 1) ib il ch
  | .update a _ f k => match Nat.blt a X.V.n₁ with
    | false => match T.get a with
      | some o => match (f o).isFreed with
        | true => none
        | false => go Γ p κ (k ()) (kSet T a (f o)) m ib il ch
      | none => none
    | true => match nowTab X.V ch a with
      | some vs => match tabOf (f (tableObj vs)) with
        | some vs' => match strip vs.toList vs'.toList with
          | some _ => go Γ p κ (k ()) T m ib il (chPut ch a vs')
          | none => none
        | none => none
      | none => none
  | .fresh k => go Γ p κ (k (X.V.t₀ + (ib + il))) T m ib (il + 1) ch
  | .handled own k => go Γ p κ (k (match own with | true => Γ.own | false => Γ.handled)) T m ib il ch
  | .call c' hd _ _ k => go (Γ.enter c' hd p) p (.ret Γ p k κ) (dF c') T m ib il ch
  | .stack k => go Γ p κ (k ((Γ.code, p) :: Γ.below)) T m ib il ch
  | _ => none
/-- an act, handing on -/
noncomputable def actC (X : Cx) (n : Nat) (a : Act) (ob : Obs) (Γ : PySem.Ctx) (p : Pos) (κ : KX) (t : Sem Fin) (T : KT) (m ib il : Nat) (ch : Ch) (go : GoT') : OutT := match a with
  | .bi b => match Γ.code with
    | .builtin _ ⟨vs, _⟩ => go Γ p κ (b.tr (tokAt vs)) T m ib il ch ((.tree t, .tree (dF Γ.code)) :: (.code Γ.code, .code (.builtin b.id ⟨b.args (tokAt vs), []⟩)) :: ob)
    | _ => none
  | .repl r => go Γ p κ r.t' T m ib il ch ((.tree t, .tree r.tm) :: ob)
  | .row r => go Γ p κ (askK t (setB X.V true)) T m ib il ch ((.tree t, .tree (askRow X.V r t)) :: (.tree (askK t (setB X.V true)), .tree (askK t (setB X.V false))) :: ob)
  | .habit r tok => match askK t (setB X.V true) with
    | .fresh k' => go Γ p κ (k' (X.υ n).tk) T m (X.υ n).i 0 ch ((.tree t, .tree (askRow X.V r t)) :: (.tree (askK t (setB X.V false)), .tree (k' (tok.of X))) :: ob)
    | _ => none
  | .eqL => match Γ.code with
    | .builtin _ ⟨[.ref a, .ref b, .int i' ti, .int code tc], _⟩ => match lookK X.V T ch a with
      | some ⟨_, _, .seq xs _, _⟩ => match lookK X.V T ch b with
        | some ⟨_, _, .seq ys _, _⟩ => match (xs[i'.toNat]? : Option Value) with
          | some (.int p _) => match (ys[i'.toNat]? : Option Value) with
            | some (.int q _) => match decide (p = q) with
              | true => match Nat.blt code.toNat 6 with
                | true => go (Γ.goto (.builtin "list.__eq__.loop" ⟨[.ref a, .ref b, rawInt (i' + 1), rawInt code], []⟩)) (X.υ n).pos κ (dF (.builtin "list.__eq__.loop" ⟨[.ref a, .ref b, rawInt (i' + 1), rawInt code], []⟩)) T m ib il ch
                    ((.tree t, .tree (dF (.builtin "list.__eq__.loop" ⟨[.ref a, .ref b, .int i' ti, .int code tc], []⟩))) :: ob)
                | false => none
              | false => none
            | _ => none
          | _ => none
        | _ => none
      | _ => none
    | _ => none
  | .comp q => match Γ.code with
    | .compStart (.ListComp elt (⟨target, iter, ifs, .ofNat 0⟩ :: rest) scope pos) 0 (.ref a) acc env => match lookK X.V T ch a with
      | some ⟨.type ty, _, _, _⟩ => go (Γ.goto (.compLoop (.ListComp elt (⟨target, iter, ifs, .ofNat 0⟩ :: rest) scope pos) 0 (.ref a) acc env)) (X.υ n).pos κ
          (dF (.compLoop (.ListComp elt (⟨target, iter, ifs, .ofNat 0⟩ :: rest) scope pos) 0 (.ref a) acc env)) T m ib il ch
          ((.tree t, .tree (dF (.compStart (.ListComp elt (⟨target, iter, ifs, .ofNat 0⟩ :: rest) scope pos) 0 (.ref a) acc env))) :: (.word ty, .word q.name) :: ob)
      | _ => none
    | _ => none
  | .meet => some (.at Γ p κ t T m (ib + il) ch, ob)
  | .ctr q l => match κ with
    | .ret Γ' p' k κ' => go Γ' p' κ' (k (.ok (q.flow (X.υ n).tau))) (ktOf (q.post (X.υ n).tau)) q.m' (X.υ n).i 0 (q.postCh (X.υ n).tau)
        ((.ctx Γ, .ctx (q.ctx (l.of X))) :: (.tree t, .tree (q.tree (l.of X))) ::
          (.state ch m ((q.pre (l.of X)).map fun p => T.get p.1), .state (q.preCh (l.of X)) q.m ((q.pre (l.of X)).map fun p => some p.2)) :: ob)
    | _ => none
  | .fn q l => match κ with
    | .ret Γ' p' k κ' => go Γ' p' κ' (k (.ok (q.flow (X.υ n).tau))) T q.m' (X.υ n).i 0 ch
        ((.ctx Γ, .ctx (q.ctx (l.of X))) :: (.tree t, .tree (dF (q.ctx (l.of X)).code)) :: (.state ch m ((q.pre (l.of X)).map fun p => T.get p.1), .state (q.ch (l.of X)) q.m ((q.pre (l.of X)).map fun p => some p.2)) :: ob)
    | _ => none
noncomputable def simX (X : Cx) (n : Nat) : List (Nat × Act) → PySem.Ctx → Pos → KX → Sem Fin → KT → Nat → Nat → Nat → Ch → Obs → OutT :=
  @Nat.rec (fun _ => List (Nat × Act) → PySem.Ctx → Pos → KX → Sem Fin → KT → Nat → Nat → Nat → Ch → Obs → OutT) (fun _ _ _ _ _ _ _ _ _ _ _ => none)
    (fun n ih hs Γ p κ t T m ib il ch ob => match hs with
      | [] => stepC X ob Γ p κ t T m ib il ch fun Γ p κ t T m ib il ch => ih [] Γ p κ t T m ib il ch ob
      | (k, a) :: hs' => match Nat.beq k n with
        | false => stepC X ob Γ p κ t T m ib il ch fun Γ p κ t T m ib il ch => ih hs Γ p κ t T m ib il ch ob
        | true => actC X n a ob Γ p κ t T m ib il ch (ih hs')) n
theorem simX_succ {X : Cx} {n : Nat} {hs : List (Nat × Act)} {Γ : PySem.Ctx} {p : Pos} {κ : KX} {t : Sem Fin} {T : KT} {m ib il : Nat} {ch : Ch} {ob : Obs} : simX X (n + 1) hs Γ p κ t T m ib il ch ob = (match hs with
      | [] => stepC X ob Γ p κ t T m ib il ch fun Γ p κ t T m ib il ch => simX X n [] Γ p κ t T m ib il ch ob
      | (k, a) :: hs' => match Nat.beq k n with
        | false => stepC X ob Γ p κ t T m ib il ch fun Γ p κ t T m ib il ch => simX X n hs Γ p κ t T m ib il ch ob
        | true => actC X n a ob Γ p κ t T m ib il ch (simX X n hs')) := by
  cases hs <;> rfl
/-- all is well with what comes out -/
def okOut (P : Res → Prop) (o : OutT) : Prop := ∃ r a, o = some (r, a) ∧ P r ∧ ∀ p ∈ a, p.1 = p.2
theorem okOut_none {P : Res → Prop} : ¬ okOut P none := fun ⟨_, _, e, _⟩ => by cases e
theorem map_all {α β : Type} {f g : α → β} : ∀ {l : List α}, l.map f = l.map g → ∀ p ∈ l, f p = g p
  | [], _, _, h => nomatch h
  | x :: l, e, p, h => by
    rw [List.map_cons, List.map_cons] at e
    injection e with e1 e2
    cases h with
    | head => exact e1
    | tail _ h => exact map_all e2 p h

/-- a plain step's soundness: whatever the steps behind it promise -/
theorem stepC_sound {V : XV} (O : V.Ok) {P : Res → Prop} (hF : ∀ f T m i ch, P (.fin f T m i ch) → ∀ h, RepK V h T m ch → V.R₀ (.ok f) ⟨h, ⟨[]⟩, V.d, V.t₀ + i, V.os⟩)
    {i₀ : Nat} {τ : Nat → Nat} {G : Un → Prop} {go : Un → GoT} {ob : Un → Obs} {Γ : PySem.Ctx} {p : Pos} {κ : KX} {t : Sem Fin} {T : KT} {m ib il : Nat} {ch : Ch}
    (ne : ∃ υ, G υ)
    (ih : ∀ Γ p κ t T m ib il ch, (∀ υ, G υ → okOut P (go υ Γ p κ t T m ib il ch)) → GoX V Γ p κ t T m (ib + il) ch)
    (H : ∀ υ, G υ → okOut P (stepC ⟨V, i₀, τ, υ⟩ (ob υ) Γ p κ t T m ib il ch (go υ))) : GoX V Γ p κ t T m (ib + il) ch := by
  obtain ⟨υ₁, g₁⟩ := ne
  have bad : ∀ {Q : Prop}, (∀ υ, G υ → okOut P none) → Q := fun h => absurd (h υ₁ g₁) okOut_none
  cases t with
  | pure fn =>
    cases fn with
    | done f =>
      cases κ with
      | base =>
        obtain ⟨r, a, e, hp, _⟩ := H υ₁ g₁
        cases e
        exact gx_end (r := .ok f) fun h D => hF _ _ _ _ _ hp h D
      | ret Γ' q k κ' => exact gx_ret (r := .ok f) (ih _ _ _ _ _ _ _ _ _ H)
    | again c' =>
      cases q : c'.quiet with
      | true =>
        simp only [stepC, q] at H
        exact gx_again q (ih _ _ _ _ _ _ _ _ _ H)
      | false =>
        simp only [stepC, q] at H
        exact bad H
  | raise e =>
    cases κ with
    | ret Γ' q k κ' => exact gx_ret (r := .error e) (ih _ _ _ _ _ _ _ _ _ H)
    | base => exact bad H
  | rule _ k => exact gx_rule (ih _ _ _ _ _ _ _ _ _ H)
  | «at» _ k => exact gx_at (ih _ _ _ _ _ _ _ _ _ H)
  | point _ k => exact gx_point (ih _ _ _ _ _ _ _ _ _ H)
  | ask k => exact gx_ask (ih _ _ _ _ _ _ _ _ _ H)
  | load a q k =>
    simp only [stepC] at H
    split at H
    · rename_i o e
      exact gx_load (fun h D => D.look O e) (ih _ _ _ _ _ _ _ _ _ H)
    · exact bad H
  | loadIfAlive a k =>
    simp only [stepC] at H
    split at H
    · rename_i o e
      exact gx_alive (fun h D => D.look O e) (ih _ _ _ _ _ _ _ _ _ H)
    · exact bad H
  | alloc o k =>
    simp only [stepC] at H
    split at H
    · exact bad H
    · rename_i hf
      exact gx_alloc hf (ih _ _ _ _ _ _ _ _ _ H)
  | update a q f k =>
    simp only [stepC] at H
    split at H
    · rename_i hb
      split at H
      · rename_i o e
        split at H
        · exact bad H
        · rename_i hf
          exact gx_update (fun h D => ⟨o, (D.own _ _ e).2, D.update O (X.blt_false hb) e hf⟩) (ih _ _ _ _ _ _ _ _ _ H)
      · exact bad H
    · rename_i hb
      split at H
      · rename_i vs e
        split at H
        · rename_i vs' e'
          split at H
          · rename_i mo em
            exact gx_update (fun h D => ⟨_, D.table O (X.blt_true hb) e (tabOf_eq e') em⟩) (ih _ _ _ _ _ _ _ _ _ H)
          · exact bad H
        · exact bad H
      · exact bad H
  | fresh k => exact gx_fresh (ih _ _ _ _ _ _ ib (il + 1) _ H)
  | handled own k =>
    cases own with
    | false => exact gx_handled (ih _ _ _ _ _ _ _ _ _ H)
    | true => exact gx_handled (ih _ _ _ _ _ _ _ _ _ H)
  | call c' hd g l k => exact gx_call (ih _ _ _ _ _ _ _ _ _ H)
  | stack k => exact gx_stack (ih _ _ _ _ _ _ _ _ _ H)
  | _ => exact bad H

/-- what was to be shown stays to be shown -/
theorem simX_sub {X : Cx} : ∀ (n : Nat) {hs Γ p κ t T m ib il ch ob r a}, simX X n hs Γ p κ t T m ib il ch ob = some (r, a) → ∀ x ∈ ob, x ∈ a
  | 0, _, _, _, _, _, _, _, _, _, _, _, _, _, e => by cases e
  | n + 1, hs, Γ, p, κ, t, T, m, ib, il, ch, ob, r, a, e => by
    have ih := @simX_sub X n
    have plain : ∀ hs, stepC X ob Γ p κ t T m ib il ch (fun Γ p κ t T m ib il ch => simX X n hs Γ p κ t T m ib il ch ob) = some (r, a) → ∀ x ∈ ob, x ∈ a := by
      intro hs e
      unfold stepC at e
      repeat' split at e
      all_goals first
        | exact ih e
        | (cases e; done)
        | (cases e; exact fun _ h => h)
    rw [simX_succ] at e
    cases hs with
    | nil => exact plain _ e
    | cons q hs' =>
      obtain ⟨k, act⟩ := q
      dsimp only at e
      cases hk : Nat.beq k n with
      | false => rw [hk] at e; exact plain _ e
      | true =>
        rw [hk] at e
        dsimp only at e
        unfold actC at e
        repeat' split at e
        all_goals first
          | (cases e; done)
          | (cases e; exact fun _ h => h)
          | (have q := ih e
             first
               | exact q
               | exact fun p hp => q p (.tail _ hp)
               | exact fun p hp => q p (.tail _ (.tail _ hp))
               | exact fun p hp => q p (.tail _ (.tail _ (.tail _ hp))))
end Mine
end
section
open PySem PySem.W PySem.W.X PyProof.Rows
namespace Mine
def ActOk (V : XV) : Act → Prop
  | .ctr q _ => q.Ok V
  | .fn q _ => q.Ok V
  | _ => True
theorem simX_sound {V : XV} (O : V.Ok) {P : Res → Prop} {i₀ : Nat} {τ : Nat → Nat}
    (hF : ∀ f T m i ch, P (.fin f T m i ch) → ∀ h, RepK V h T m ch → V.R₀ (.ok f) ⟨h, ⟨[]⟩, V.d, V.t₀ + i, V.os⟩)
    (hA : ∀ Γ p κ t T m i ch, P (.at Γ p κ t T m i ch) → GoX V Γ p κ t T m i ch) :
    ∀ (n : Nat) (υ₀ : Un) {hs Γ p κ t T m ib il ch} {ob : Un → Obs}, (∀ q ∈ hs, ActOk V q.2) → (∀ υ : Un, (∀ j, n ≤ j → υ j = υ₀ j) → okOut P (simX ⟨V, i₀, τ, υ⟩ n hs Γ p κ t T m ib il ch (ob υ))) → GoX V Γ p κ t T m (ib + il) ch
  | 0, υ₀, _, _, _, _, _, _, _, _, _, _, _, _, H => absurd (H υ₀ fun _ _ => rfl) okOut_none
  | n + 1, υ₀, hs, Γ, p, κ, t, T, m, ib, il, ch, ob, W, H => by
    have ih := @simX_sound V O P i₀ τ hF hA n
    let put (u : Un1) : Un := fun j => if j = n then u else υ₀ j
    have put_at : ∀ u, put u n = u := fun u => by simp [put]
    have put_ge : ∀ u (υ : Un), (∀ j, n ≤ j → υ j = put u j) → (∀ j, n + 1 ≤ j → υ j = υ₀ j) ∧ υ n = u := fun u υ h =>
      ⟨fun j hj => by rw [h j (Nat.le_of_succ_le hj)]; simp [put, Nat.ne_of_gt hj], by rw [h n (Nat.le_refl _), put_at]⟩
    have same : ∀ (υ : Un), (∀ j, n ≤ j → υ j = υ₀ j) → ∀ j, n + 1 ≤ j → υ j = υ₀ j := fun υ h j hj => h j (Nat.le_of_succ_le hj)
    have plain : ∀ hs, (∀ q ∈ hs, ActOk V q.2) → (∀ υ : Un, (∀ j, n + 1 ≤ j → υ j = υ₀ j) → okOut P (stepC ⟨V, i₀, τ, υ⟩ (ob υ) Γ p κ t T m ib il ch fun Γ p κ t T m ib il ch => simX ⟨V, i₀, τ, υ⟩ n hs Γ p κ t T m ib il ch (ob υ))) → GoX V Γ p κ t T m (ib + il) ch := by
      intro hs W H
      refine stepC_sound O hF (i₀ := i₀) (τ := τ) (G := fun υ => ∀ j, n + 1 ≤ j → υ j = υ₀ j) (go := fun υ Γ p κ t T m ib il ch => simX ⟨V, i₀, τ, υ⟩ n hs Γ p κ t T m ib il ch (ob υ)) ⟨υ₀, fun _ _ => rfl⟩ ?_ H
      intro Γ p κ t T m ib il ch H
      exact ih υ₀ W fun υ hυ => H υ (same υ hυ)
    simp only [simX_succ] at H
    cases hs with
    | nil => exact plain _ W H
    | cons q hs' =>
      obtain ⟨kq, act⟩ := q
      dsimp only at H
      cases hk : Nat.beq kq n with
      | false => simp only [hk] at H; exact plain _ W H
      | true =>
        simp only [hk] at H
        have W' := fun q hq => W q (List.mem_cons_of_mem _ hq)
        have Wa : ActOk V act := W _ (.head _)
        have H₀ : ∀ {o : Un → OutT}, (∀ υ : Un, (∀ j, n + 1 ≤ j → υ j = υ₀ j) → okOut P (o υ)) → okOut P (o υ₀) := fun h => h υ₀ fun _ _ => rfl
        have bad : ∀ {Q : Prop}, (∀ υ : Un, (∀ j, n + 1 ≤ j → υ j = υ₀ j) → okOut P none) → Q := fun h => absurd (h υ₀ fun _ _ => rfl) okOut_none
        cases act with
        | bi b =>
          simp only [actC] at H
          split at H
          · rename_i vs ec
            have g := ih υ₀ W' fun υ hυ => H υ (same υ hυ)
            obtain ⟨r, a, e, _, h1⟩ := H₀ H
            have z := simX_sub n e
            have e1 := Side.tree.inj (h1 _ (z _ (.head _)))
            have e2 := Side.code.inj (h1 _ (z _ (.tail _ (.head _))))
            rw [e1, e2]
            exact b.ok _ g
          · exact bad H
        | repl ri =>
          simp only [actC] at H
          have g := ih υ₀ W' fun υ hυ => H υ (same υ hυ)
          obtain ⟨r, a, e, _, h1⟩ := H₀ H
          have e1 := Side.tree.inj (h1 _ (simX_sub n e _ (.head _)))
          rw [e1, ri.ok]
          exact g
        | row r =>
          simp only [actC] at H
          have g := ih υ₀ W' fun υ hυ => H υ (same υ hυ)
          obtain ⟨_, a, e, _, h1⟩ := H₀ H
          have q := simX_sub n e
          exact gx_row (Side.tree.inj (h1 _ (q _ (.head _)))) (Side.tree.inj (h1 _ (q _ (.tail _ (.head _))))) g
        | habit r tok =>
          simp only [actC] at H
          split at H
          · rename_i k' ek
            have g : ∀ tk i', GoX V Γ p κ (k' tk) T m (i' + 0) ch := fun tk i' => ih (put ⟨default, i', tk, fun _ => 0⟩) W' fun υ hυ => by
              obtain ⟨h1, h2⟩ := put_ge _ υ hυ
              have q := H υ h1
              rwa [h2] at q
            obtain ⟨_, a, e, _, h1⟩ := H₀ H
            have q := simX_sub n e
            exact gx_habit (Side.tree.inj (h1 _ (q _ (.head _)))) ek (Side.tree.inj (h1 _ (q _ (.tail _ (.head _))))) g
          · exact bad H
        | eqL =>
          simp only [actC] at H
          split at H
          · split at H
            · rename_i lx
              split at H
              · rename_i ly
                split at H
                · rename_i gx
                  split at H
                  · rename_i gy
                    split at H
                    · rename_i hpq
                      split at H
                      · rename_i hc
                        have g := fun p' => ih (put ⟨p', 0, 0, fun _ => 0⟩) W' fun υ hυ => by
                          obtain ⟨h1, h2⟩ := put_ge _ υ hυ
                          have q := H υ h1
                          rwa [h2] at q
                        obtain ⟨_, a, e, _, h1⟩ := H₀ H
                        have q := simX_sub n e
                        have e1 := Side.tree.inj (h1 _ (q _ (.head _)))
                        rw [e1]
                        have hpq := of_decide_eq_true hpq
                        subst hpq
                        exact gx_eqL (X.blt_true hc) (fun h D => ⟨_, _, _, _, D.look O lx, rfl, gx⟩) (fun h D => ⟨_, _, _, _, D.look O ly, rfl, gy⟩) g
                      · exact bad H
                    · exact bad H
                  · exact bad H
                · exact bad H
              · exact bad H
            · exact bad H
          · exact bad H
        | comp it =>
          simp only [actC] at H
          split at H
          · split at H
            · rename_i lk
              have g := fun p' => ih (put ⟨p', 0, 0, fun _ => 0⟩) W' fun υ hυ => by
                obtain ⟨h1, h2⟩ := put_ge _ υ hυ
                have q := H υ h1
                rwa [h2] at q
              obtain ⟨_, a, e, _, h1⟩ := H₀ H
              have q := simX_sub n e
              have e1 := Side.tree.inj (h1 _ (q _ (.head _)))
              have e2 := Side.word.inj (h1 _ (q _ (.tail _ (.head _))))
              rw [e1]
              exact gx_comp (k := it) (fun h D => ⟨_, D.look O lk, by rw [e2]⟩) g
            · exact bad H
          · exact bad H
        | meet =>
          simp only [actC] at H
          obtain ⟨r, a, e, e2, _⟩ := H₀ H
          cases e
          exact hA _ _ _ _ _ _ _ _ e2
        | ctr q l =>
          simp only [actC] at H
          split at H
          · rename_i Γ' p' k κ'
            have g : ∀ τ' i', GoX V Γ' p' κ' (k (.ok (q.flow τ'))) (ktOf (q.post τ')) q.m' i' (q.postCh τ') := fun τ' i' => ih (ib := i') (il := 0) (put ⟨default, i', 0, τ'⟩) W' fun υ hυ => by
              obtain ⟨h1, h2⟩ := put_ge _ υ hυ
              have z := H υ h1
              rwa [h2] at z
            obtain ⟨_, a, e, _, h1⟩ := H₀ H
            have z := simX_sub n e
            have e1 := Side.ctx.inj (h1 _ (z _ (.head _)))
            have e2 := Side.tree.inj (h1 _ (z _ (.tail _ (.head _))))
            obtain ⟨e3, e4, e6⟩ := Side.state.inj (h1 _ (z _ (.tail _ (.tail _ (.head _)))))
            rw [e1, e2, e3, e4]
            exact gx_ctr (show q.Ok V from Wa) (map_all e6) fun τ' i' h D => g τ' i' h D
          · exact bad H
        | fn q l =>
          simp only [actC] at H
          split at H
          · rename_i Γ' p' k κ'
            have g : ∀ τ' i', GoX V Γ' p' κ' (k (.ok (q.flow τ'))) T q.m' i' ch := fun τ' i' => ih (ib := i') (il := 0) (put ⟨default, i', 0, τ'⟩) W' fun υ hυ => by
              obtain ⟨h1, h2⟩ := put_ge _ υ hυ
              have z := H υ h1
              rwa [h2] at z
            obtain ⟨_, a, e, _, h1⟩ := H₀ H
            have z := simX_sub n e
            have e1 := Side.ctx.inj (h1 _ (z _ (.head _)))
            have e2 := Side.tree.inj (h1 _ (z _ (.tail _ (.head _))))
            obtain ⟨e3, e4, e6⟩ := Side.state.inj (h1 _ (z _ (.tail _ (.tail _ (.head _)))))
            rw [e1, e2, e4]
            rw [e3] at g ⊢
            exact gx_fn (show q.Ok V from Wa) (map_all e6) fun τ' i' => g τ' i'
          · exact bad H
end Mine
end
section
open PySem PySem.W PySem.W.X PyProof.Rows
namespace Mine
theorem ctr_cut {V : XV} {q : Ctr} {R : Result → Shared → Prop} (K : q.Ok V) : q.Ok (cutV V R) := fun R' p τ i H => K R' p τ i fun τ' i' h D => H τ' i' h D.cut
theorem fn_cut {V : XV} {q : FnC} {R : Result → Shared → Prop} (K : q.Ok V) : q.Ok (cutV V R) := ⟨K.up, fun R' p τ i h₁ D H => K.run R' p τ i h₁ D.uncut H⟩
theorem act_cut {V : XV} {a : Act} {R : Result → Shared → Prop} (K : ActOk V a) : ActOk (cutV V R) a := by
  cases a with
  | ctr q l => exact ctr_cut K
  | fn q l => exact fn_cut K
  | _ => trivial
abbrev ChkT := Option (List Side × Side × Side × Side)
/-- the left side of a segment's check -/
noncomputable def segL (keys : List (Addr × Obj)) : OutT → ChkT
  | some (.fin f T m _ ch, ob) => some (ob.map (·.1), .word "fin", .tree (.pure (.done f)), .state ch m (keys.map fun p => T.get p.1))
  | some (.at Γ _ .base t T m _ ch, ob) => some (ob.map (·.1), .ctx Γ, .tree t, .state ch m (keys.map fun p => T.get p.1))
  | _ => none
noncomputable def segR (s : Side) (t : Sem Fin) (ch : Ch) (m : Nat) (l : List (Addr × Obj)) : OutT → ChkT
  | some (_, ob) => some (ob.map (·.2), s, .tree t, .state ch m (l.map fun p => some p.2))
  | none => some ([], .word "", .word "", .word "")
theorem seg_obs {l : List (Addr × Obj)} {s : Side} {t : Sem Fin} {ch : Ch} {m : Nat} {o : OutT} (e : segL l o = segR s t ch m l o) :
    ∃ r ob, o = some (r, ob) ∧ (∀ p ∈ ob, p.1 = p.2) ∧ ((∃ f T i, r = .fin f T m i ch ∧ s = .word "fin" ∧ t = .pure (.done f) ∧ ∀ p ∈ l, T.get p.1 = some p.2) ∨ ∃ Γ p T i, r = .at Γ p .base t T m i ch ∧ s = .ctx Γ ∧ ∀ p ∈ l, T.get p.1 = some p.2) := by
  cases o with
  | none => cases e
  | some x =>
    obtain ⟨r, ob⟩ := x
    cases r with
    | fin f T m₁ i ch₁ =>
      simp only [segL, segR, Option.some.injEq, Prod.mk.injEq, Side.tree.injEq, Side.state.injEq] at e
      obtain ⟨e1, e2, e3, e4, e5, e6⟩ := e
      subst e4 e5
      exact ⟨_, _, rfl, map_all e1, .inl ⟨f, T, i, rfl, e2.symm, e3.symm, map_all e6⟩⟩
    | «at» Γ p κ t₁ T m₁ i ch₁ =>
      cases κ with
      | base =>
        simp only [segL, segR, Option.some.injEq, Prod.mk.injEq, Side.tree.injEq, Side.state.injEq] at e
        obtain ⟨e1, e2, e3, e4, e5, e6⟩ := e
        subst e3 e4 e5
        exact ⟨_, _, rfl, map_all e1, .inr ⟨Γ, p, T, i, rfl, e2.symm, map_all e6⟩⟩
      | ret => simp [segL, segR] at e

/-- the run of a contract -/
noncomputable def Ctr.run (q : Ctr) (V : XV) (N : Nat) (hs : List (Nat × Act)) (R : Result → Shared → Prop) (p : Pos) (i : Nat) (τ : Nat → Nat) (υ : Un) : OutT :=
  simX ⟨cutV V R, i, τ, υ⟩ N hs (q.ctx τ) p .base (q.tree τ) (ktOf (q.pre τ)) q.m i 0 (q.preCh τ) []
theorem ctr_fin {V : XV} (O : V.Ok) {q : Ctr} {N : Nat} {hs : List (Nat × Act)} (l : TSpec) (W : ∀ a ∈ hs, ActOk V a.2)
    (H : ∀ R p i τ υ, segL (q.post (l.of ⟨cutV V R, i, τ, υ⟩)) (q.run V N hs R p i τ υ) = segR (.word "fin") (.pure (.done (q.flow (l.of ⟨cutV V R, i, τ, υ⟩)))) (q.postCh (l.of ⟨cutV V R, i, τ, υ⟩)) q.m' (q.post (l.of ⟨cutV V R, i, τ, υ⟩)) (q.run V N hs R p i τ υ)) : q.Ok V := by
  intro R p τ i Th
  refine simX_sound (V := cutV V R) (P := fun r => match r with
    | .fin f T m i ch => ∀ h, RepK (cutV V R) h T m ch → R (.ok f) ⟨h, ⟨[]⟩, V.d, V.t₀ + i, V.os⟩
    | .at .. => False) (okCut (R := R) O) (fun _ _ _ _ _ h => h) (fun _ _ _ _ _ _ _ _ h => h.elim) N (fun _ => un0) (i₀ := i) (τ := τ) (ib := i) (il := 0) (ob := fun _ => []) (fun a ha => act_cut (W a ha)) fun υ _ => ?_
  obtain ⟨r, ob, e, ho, hr⟩ := seg_obs (H R p i τ υ)
  refine ⟨r, ob, e, ?_, ho⟩
  rcases hr with ⟨f, T, i', rfl, _, e2, e3⟩ | ⟨Γ, p', T, i', rfl, e1, _⟩
  · injection e2 with e2
    injection e2 with e2
    subst e2
    exact fun h D => Th _ _ h (D.uncut.less fun a o e => e3 _ (get_ktOf e))
  · cases e1
/-- a run that ends where another contract begins -/
theorem ctr_next {V : XV} (O : V.Ok) {q q' : Ctr} {N : Nat} {hs : List (Nat × Act)} (l : TSpec) (W : ∀ a ∈ hs, ActOk V a.2) (K : q'.Ok V)
    (hq : q'.flow = q.flow ∧ q'.post = q.post ∧ q'.postCh = q.postCh ∧ q'.m' = q.m')
    (H : ∀ R p i τ υ, segL (q'.pre (l.of ⟨cutV V R, i, τ, υ⟩)) (q.run V N hs R p i τ υ) = segR (.ctx (q'.ctx (l.of ⟨cutV V R, i, τ, υ⟩))) (q'.tree (l.of ⟨cutV V R, i, τ, υ⟩)) (q'.preCh (l.of ⟨cutV V R, i, τ, υ⟩)) q'.m (q'.pre (l.of ⟨cutV V R, i, τ, υ⟩)) (q.run V N hs R p i τ υ)) : q.Ok V := by
  intro R p τ i Th
  obtain ⟨h2, h3, h4, h5⟩ := hq
  refine simX_sound (V := cutV V R) (P := fun r => match r with
    | .fin .. => False
    | .at Γ p κ t T m i ch => GoX (cutV V R) Γ p κ t T m i ch) (okCut (R := R) O) (fun _ _ _ _ _ h => h.elim) (fun _ _ _ _ _ _ _ _ h => h) N (fun _ => un0) (i₀ := i) (τ := τ) (ib := i) (il := 0) (ob := fun _ => []) (fun a ha => act_cut (W a ha)) fun υ _ => ?_
  obtain ⟨r, ob, e, ho, hr⟩ := seg_obs (H R p i τ υ)
  refine ⟨r, ob, e, ?_, ho⟩
  rcases hr with ⟨f, T, i', rfl, e1, _⟩ | ⟨Γ, p', T, i', rfl, e1, e3⟩
  · cases e1
  · injection e1 with e1
    subst e1
    have z := K R p' (l.of ⟨cutV V R, i, τ, υ⟩) i' (fun τ' i' h D => by rw [h3, h4, h5] at D; rw [h2]; exact Th τ' i' h D)
    exact fun h D => z h (D.less fun a o e => e3 _ (get_ktOf e))
/-- a place emptied -/
def kDel : KT → Nat → KT
  | .nil, _ => .nil
  | .node v l r, i => match Nat.beq i 0 with
    | true => .node none l r
    | false => match Nat.beq (i % 2) 1 with
      | true => .node v (kDel l (i / 2)) r
      | false => .node v l (kDel r (i / 2 - 1))
theorem get_del {x : Obj} : ∀ {t : KT} {i j : Nat}, (kDel t i).get j = some x → j ≠ i ∧ t.get j = some x
  | .nil, _, _, h => by cases h
  | .node v l r, i, j, h => by
    unfold kDel at h
    rw [BT.beq_eq, BT.beq_eq] at h
    rw [KT.get_node]
    by_cases h0 : i = 0
    · subst h0
      rw [decide_eq_true rfl] at h
      dsimp only at h
      rw [KT.get_node] at h
      split at h
      · cases h
      · rename_i q; exact ⟨q, by rw [if_neg q]; exact h⟩
    · rw [decide_eq_false h0] at h
      by_cases p : i % 2 = 1
      · rw [decide_eq_true p] at h
        dsimp only at h
        rw [KT.get_node] at h
        split at h
        · rename_i q; exact ⟨by omega, by rw [if_pos q]; exact h⟩
        · rename_i q
          rw [if_neg q]
          split at h
          · rename_i q1
            rw [if_pos q1]
            obtain ⟨ne, e⟩ := get_del h
            exact ⟨by omega, e⟩
          · rename_i q1; exact ⟨by omega, by rw [if_neg q1]; exact h⟩
      · rw [decide_eq_false p] at h
        dsimp only at h
        rw [KT.get_node] at h
        split at h
        · rename_i q; exact ⟨by omega, by rw [if_pos q]; exact h⟩
        · rename_i q
          rw [if_neg q]
          split at h
          · rename_i q1; exact ⟨by omega, by rw [if_pos q1]; exact h⟩
          · rename_i q1
            rw [if_neg q1]
            obtain ⟨ne, e⟩ := get_del h
            exact ⟨by omega, e⟩
theorem holds_of_get {h : Heap} : ∀ {t : KT} {s b : Nat}, (∀ j o, t.get j = some o → h.get? (s * j + b) = some o) → KT.Holds h s b t
  | .nil, _, _, _ => trivial
  | .node v l r, s, b, H => by
    refine ⟨fun o e => ?_, holds_of_get fun j o e => ?_, holds_of_get fun j o e => ?_⟩
    · have z := H 0 o (by rw [KT.get_node, if_pos rfl]; exact e)
      rwa [Nat.mul_zero, Nat.zero_add] at z
    · have z := H (2 * j + 1) o (by rw [KT.get_node, if_neg (by omega), if_pos (by omega), show (2 * j + 1) / 2 = j by omega]; exact e)
      have : s * (2 * j + 1) + b = 2 * s * j + (s + b) := by rw [Nat.mul_add, Nat.mul_one, ← Nat.mul_assoc, Nat.mul_comm s 2]; omega
      rwa [this] at z
    · have z := H (2 * j + 2) o (by rw [KT.get_node, if_neg (by omega), if_neg (by omega), show (2 * j + 2) / 2 - 1 = j by omega]; exact e)
      have : s * (2 * j + 2) + b = 2 * s * j + (2 * s + b) := by rw [Nat.mul_add, ← Nat.mul_assoc, Nat.mul_comm s 2]; omega
      rwa [this] at z
def delAll : Ch → KT → KT
  | [], t => t
  | p :: l, t => delAll l (kDel t p.1)
theorem get_delAll {x : Obj} {j : Nat} : ∀ {ch : Ch} {t : KT}, (delAll ch t).get j = some x → chLook ch j = none ∧ t.get j = some x
  | [], _, h => ⟨rfl, h⟩
  | p :: l, t, h => by
    obtain ⟨e1, e2⟩ := get_delAll (ch := l) (t := kDel t p.1) h
    obtain ⟨ne, e3⟩ := get_del e2
    refine ⟨?_, e3⟩
    unfold chLook
    rw [BT.beq_eq, decide_eq_false (Ne.symm ne)]
    exact e1
/-- everything that stands is old -/
def frameV (V : XV) (ch : Ch) (h : Heap) (m : Nat) (R : Result → Shared → Prop) : XV := { V with h₀ := h, n₁ := m, kt := delAll ch V.kt, tabs := [], R₀ := R }
theorem frame_ok {V : XV} (O : V.Ok) {h : Heap} {T : KT} {m : Nat} {ch : Ch} {R : Result → Shared → Prop} (D : RepK V h T m ch) : (frameV V ch h m R).Ok := by
  refine ⟨D.size, ?_, fun _ _ e => (nomatch e)⟩
  obtain ⟨k, _, B⟩ := D.base
  refine holds_of_get fun j o e => ?_
  obtain ⟨e1, e2⟩ := get_delAll e
  have z := KT.Holds.get O.kt e2
  rw [Nat.one_mul, Nat.add_zero] at z ⊢
  exact B.keep j o z e1
noncomputable def FnC.sim (q : FnC) (V : XV) (N : Nat) (hs : List (Nat × Act)) (h₁ : Heap) (R : Result → Shared → Prop) (p : Pos) (i : Nat) (τ : Nat → Nat) (υ : Un) : OutT :=
  simX ⟨frameV V (q.ch τ) h₁ q.m R, i, τ, υ⟩ N hs (q.ctx τ) p .base (dF (q.ctx τ).code) .nil q.m i 0 [] []
noncomputable def fnL : OutT → Option (List Side × Side × Side)
  | some (.fin f _ m _ ch, ob) => some (ob.map (·.1), .tree (.pure (.done f)), .state ch m [])
  | _ => none
noncomputable def fnR (f : Flow) (m' : Nat) : OutT → Option (List Side × Side × Side)
  | some (_, ob) => some (ob.map (·.2), .tree (.pure (.done f)), .state [] m' [])
  | none => some ([], .word "", .word "")
/-- acts that ask nothing of what is old -/
def Act.bare : Act → Bool
  | .ctr .. => false
  | .fn .. => false
  | _ => true
theorem bare_ok {V : XV} {hs : List (Nat × Act)} (h : hs.all (fun a => a.2.bare) = true) : ∀ a ∈ hs, ActOk V a.2 := fun a ha => by
  have z := List.all_eq_true.mp h a ha
  cases e : a.2 <;> rw [e] at z <;> first | trivial | cases z
/-- the acts that ask something -/
def need : List (Nat × Act) → List Act
  | [] => []
  | (_, a) :: l => match a.bare with
    | true => need l
    | false => a :: need l
theorem need_ok {V : XV} : ∀ {hs : List (Nat × Act)}, (∀ a ∈ need hs, ActOk V a) → ∀ a ∈ hs, ActOk V a.2
  | [], _, _, h => nomatch h
  | (n, b) :: l, H, a, h => by
    cases e : b.bare with
    | true =>
      have e' : need ((n, b) :: l) = need l := by simp only [need, e]
      rw [e'] at H
      cases h with
      | head => exact bare_ok (hs := [(n, b)]) (by simp [e]) _ (.head _)
      | tail _ h => exact need_ok H a h
    | false =>
      have e' : need ((n, b) :: l) = b :: need l := by simp only [need, e]
      rw [e'] at H
      cases h with
      | head => exact H b (.head _)
      | tail _ h => exact need_ok (fun a ha => H a (.tail _ ha)) a h
theorem fn_fin {V : XV} (O : V.Ok) {q : FnC} {N : Nat} {hs : List (Nat × Act)} (l : TSpec) (W : hs.all (fun a => a.2.bare) = true) (up : Nat.ble q.m q.m' = true)
    (H : ∀ h₁ R p i τ υ, fnL (q.sim V N hs h₁ R p i τ υ) = fnR (q.flow (l.of ⟨frameV V (q.ch τ) h₁ q.m R, i, τ, υ⟩)) q.m' (q.sim V N hs h₁ R p i τ υ)) : q.Ok V := by
  refine ⟨Nat.le_of_ble_eq_true up, fun R p τ i h₁ D Th => ?_⟩
  have O' : (frameV V (q.ch τ) h₁ q.m R).Ok := frame_ok O D
  have z := simX_sound (V := frameV V (q.ch τ) h₁ q.m R) (P := fun r => match r with
    | .fin f T m i ch => ∀ h, RepK (frameV V (q.ch τ) h₁ q.m R) h T m ch → R (.ok f) ⟨h, ⟨[]⟩, V.d, V.t₀ + i, V.os⟩
    | .at .. => False) O' (fun _ _ _ _ _ h => h) (fun _ _ _ _ _ _ _ _ h => h.elim) N (fun _ => un0) (i₀ := i) (τ := τ) (hs := hs) (Γ := q.ctx τ) (p := p) (κ := .base) (t := dF (q.ctx τ).code) (T := .nil) (m := q.m) (ib := i) (il := 0) (ch := []) (ob := fun _ => []) (bare_ok W) (fun υ _ => by
      have e := H h₁ R p i τ υ
      unfold FnC.sim at e
      generalize hr : simX ⟨frameV V (q.ch τ) h₁ q.m R, i, τ, υ⟩ N hs (q.ctx τ) p .base (dF (q.ctx τ).code) .nil q.m i 0 [] [] = o at e
      cases o with
      | none => cases e
      | some x =>
        obtain ⟨r, ob⟩ := x
        cases r with
        | «at» => cases e
        | fin f T m i' ch =>
          simp only [fnL, fnR, Option.some.injEq, Prod.mk.injEq, Side.tree.injEq, Side.state.injEq] at e
          obtain ⟨e1, e2, e3, e4, _⟩ := e
          injection e2 with e2
          injection e2 with e2
          subst e2 e3 e4
          refine ⟨_, _, rfl, ?_, map_all e1⟩
          intro h D'
          refine Th _ _ h D'.size fun a o ea => ?_
          obtain ⟨k, _, B⟩ := D'.base
          exact B.keep a o ea rfl)
  exact z h₁ (RepK.start O')
end Mine
end
section
open PySem PySem.W PySem.W.X PySem.Calls PyProof.Rows
namespace Mine
/-- the one context in which the claim's call is made -/
abbrev Γ₀ : PySem.Ctx := ⟨.builtin "claim.caller" {}, none, none, [], none⟩
/-- what is left of a law when its top has run: the call, made in that one context -/
abbrev WalkY (q : Program) (loose : List Str) (XP : (Str → Option Value) → Heap → Prop) {α : Type} (Yf : Shared → α) (Ya : World → α) (r : RowW) (d : DefRec) (kwd : List (Str × Expr)) (run : Value → List Value → Sem Value) : Prop :=
  ∀ (w : World) (s₀ s₁ : Shared) (mg mb : Str → Option Value), Ground q loose r.records XP w s₀ mg mb s₁.heap → Yf s₀ = Ya w → ∀ (a : Addr) (o : Obj) (pm cd doc dV kV : Value), s₁.heap.get? a = some o →
    o.data = .func { docDef d.name d.params d.body d.scope pm cd doc with defaults := dV, kwdefaults := kV } → s₁.heap.CodeRec cd d.name → Dflts mg s₁.heap d.params kwd dV kV → mg d.name = some (.ref a) → s₁.gens = #[] →
    ∀ (args : List WData) (vals : List Value) (as : List Addr), Laid r.records w s₀ s₁ args vals as → r.claim.pre args = true → WData.layableAll args = true → ReadsAllW r.records (classAt s₀.heap) s₁.heap vals args as → WellAll w.params s₁.heap vals args → (∀ a ∈ as, (a == sysModules) = false) →
      Sem.wp (model r.prog w) Γ₀ (run (.ref a) vals) (fun v _ s' => GoodWG r.claim (classAt s₀.heap) (ExcName.means s₀.heap) args s₁ (.ok (.ret v)) s')
        (fun e _ s' => GoodWG r.claim (classAt s₀.heap) (ExcName.means s₀.heap) args s₁ (.error e) s') default s₁

/-- the call's end told of the thread's run: by wp in the one context -/
theorem callFrom_wp {c : ClaimW} {tree : List Value → Sem Fin} {w : World} {s : Shared} {free : Addr → Prop} {gens : Prop} {kept : Heap → Prop} (hz : s.asleep) (hgens : s.gens = #[])
    (H : ∀ args, c.pre args = true → WData.layableAll args = true → ∀ ord : List DictEntry → List DictEntry, (∀ l, (ord l).Perm l) →
      ∃ vs s₁, layAllW c.records (classAt s.heap) w.params ord args s = some (vs, s₁) ∧
        Sem.wp (model c.prog w) Γ₀ (tree vs) (fun fin _ s' => ∃ f, fin = .done f ∧ (c.Ends s args vs s₁ (.ok f) s' ∧ s'.os = s.os ∧ AllBare s'.gens ∧ kept s'.heap))
          (fun e _ s' => c.Ends s args vs s₁ (.error e) s' ∧ s'.os = s.os ∧ AllBare s'.gens ∧ kept s'.heap) default s₁) :
    c.CallFrom (fun vs => ⟨tree vs, .builtin "claim.caller" {}, default, []⟩) w free gens kept s := by
  intro args hpre hlay ord hord
  obtain ⟨vs, s₁, laid, run⟩ := H args hpre hlay ord hord
  have rest := layAllW_rest _ _ _ laid
  have fin := Sem.wp_mono (model c.prog w) Γ₀ (tree vs) (post' := Sem.finPost (model c.prog w) Γ₀ fun r s' => (c.Ends s args vs s₁ r s' ∧ s'.os = s.os ∧ kept s'.heap) ∧ leftWithCleanup s'.gens = false)
    (exc' := fun e _ s' => (c.Ends s args vs s₁ (.error e) s' ∧ s'.os = s.os ∧ kept s'.heap) ∧ leftWithCleanup s'.gens = false)
    (fun fin p s' x => by
      obtain ⟨f, rfl, a1, a2, a3, a4⟩ := x
      exact ⟨⟨a1, a2, a4⟩, leftWithCleanup_false_of_bare a3⟩)
    (fun e p s' x => ⟨⟨x.1, x.2.1, x.2.2.2⟩, leftWithCleanup_false_of_bare x.2.2.1⟩) default s₁ run
  obtain ⟨n, r, sa, sb, sched, native, fo, ends, os, kp⟩ := wp_halts_full (R := fun r s' => c.Ends s args vs s₁ r s' ∧ s'.os = s.os ∧ kept s'.heap) (Shared.asleep_of_life rest.2.2.2 hz) fin
  obtain ⟨eh, _, _, eo, _⟩ := Shared.forget_eq fo
  have ends := ends.congr eh
  rw [← eh] at kp
  rw [← eo] at os
  have life : sb.heap.life = s.heap.life := (runN_life _ _ _ native).trans rest.2.2.2
  refine ⟨vs, s₁, laid, n, _, sb, sched, ?_, (fun _ i x hx => by rw [hgens] at hx; simp at hx), kp, by rw [life], Shared.rest_eq os⟩
  rcases ends with ⟨v, rfl, d1, d2, d3, d4, d5⟩ | ⟨e, ob, cls, rfl, d1, d2, d3, d4, d5⟩
  · exact .inl ⟨v, rfl, d1, d2, d3, fun b o y _ => d4 b o y, d5⟩
  · exact .inr ⟨e, ob, cls, rfl, d1, d2, d3, d4, fun b o y _ => d5 b o y⟩
/-- what a head hands through to the walk -/
structure Kept (T : Prop) : Prop where
  held : T
end Mine
/-- the head of an open row, for a call in the one context -/
theorem Mine.PySem.W.holds_openX {T : Prop} {r : OpenRow} {q : Program} {loose : List Str} {Xt : Shared → Bool} {XP : (Str → Option Value) → Heap → Prop} {α : Type} {Yf : Shared → α} {Ya : World → α} {d : DefRec} {kwd : List (Str × Expr)} {N : Nat}
    (left : LeftO r.prog q loose Xt Yf Ya N)
    (hX : ∀ s, Xt s = true → XP (s.heap.nsMap mainGlobals) s.heap) (hXk : ∀ mg h h', XP mg h → (∀ b o, h.get? b = some o → h'.get? b = some o) → XP mg h')
    (hdef : defOf q r.name = some (d, kwd)) (hp : r.prog.theDef r.name = some (d.params, d.body, d.scope)) (hk : kwWritten? d.params.kwonlyargs d.params.kw_defaults = some kwd) (hRf : ∀ s, Xt s = true → RecFacts r.records s.heap) (hwr : (!r.writes || r.records.isEmpty) = true)
    (k1 : r.wellSaid = true) (ok : (chainsOk q && opensWell r.prog && (frees r.toRowW && r.within.isEmpty)) = true) (hb : r.prog.bare) (hw : r.toRowW.promised)
    (call : T → WalkY q loose XP Yf Ya r.toRowW d kwd fun f vs => PySem.call f vs) (hT : Kept T := by assumption) : r.Holds := by
  simp only [Bool.and_eq_true] at ok
  obtain ⟨⟨hch, opens⟩, free, within⟩ := ok
  obtain ⟨hsame, hu, ha, hap, hm⟩ := frees_parts free
  refine ⟨k1, hw, ⟨hb, opens, by show r.toRowW.makers.map _ = []; rw [hm]; rfl⟩, hw.witness, fun w => ?_⟩
  have B := left.behind (XP := fun mg h => XP mg h ∧ RecFacts r.records h) (fun s hs => ⟨hX s hs, hRf s hs⟩) hch w
  refine ⟨B.1, fun s' after => ?_⟩
  obtain ⟨s₀, fence, _, s, ran, asleep, gens, isNs, G, y⟩ := B.2 s' after
  have G' : Ground q loose [] XP w s (s.heap.nsMap mainGlobals) (s.heap.nsMap builtinsNs) s.heap := ⟨G.T, G.B, G.D, G.TE, G.TD, G.W, G.X.1, G.cls, G.has, G.apart, G.once, G.K⟩
  refine ⟨s₀, fence, ‹_›, s, ran, fun n hn => ?_, G.X.2.1, G.X.2.2.1, ?_⟩
  · have : n = r.name := by split at hn <;> simp_all
    subst this
    exact pinned_of_view isNs G' hdef hp hk
  have gens : s.gens = #[] := Array.eq_empty_of_size_eq_zero (beq_iff_eq.mp gens)
  have GR : Ground q loose r.records XP w s _ _ s.heap := G.X.2.ground G'
  refine callFrom_wp (c := r.toRowW.claim) asleep gens fun args hpre hlay ord hord => ?_
  obtain ⟨⟨vs, s₁⟩, laid⟩ := Option.isSome_iff_exists.mp (layAllW_isSome (P := w.params) (ord := ord) GR.has args r.toRowW.args s (pre_splitW hpre).1)
  have keeps := layAllW_keeps _ _ _ laid
  have rest := layAllW_rest _ _ _ laid
  obtain ⟨as, reads, inb, old⟩ := reads_layAllW hord _ _ _ laid hlay s₁.heap (fun _ _ e => e)
  have L : Laid r.records w s s₁ args vs as := ⟨⟨ord, hord, laid⟩, reads, inb, old, keeps, rest.1.trans gens, rest.2.2.1⟩
  have G₁ := GR.keeps hXk keeps
  obtain ⟨a, o, pm, cd, doc, dV, kV, h1, h2, h3, h4, h5⟩ := G₁.fn hdef
  have Z := call hT.held w s s₁ _ _ G₁ y a o pm cd doc dV kV h2 h3 h4 h5 (defOf_name hdef ▸ h1) L.gens args vs as L hpre hlay L.reads L.well (L.low G.low)
  have ident := ident_freeW hu ha hap
  have no : r.toRowW.claim.within = [] := List.isEmpty_iff.mp within
  have told : ∀ {x : Result} {s' : Shared}, GoodWG r.toRowW.claim (classAt s.heap) (ExcName.means s.heap) args s₁ x s' → _ := fun g => g.laid (c := r.toRowW.claim) hsame no ident L
  refine ⟨vs, s₁, laid, ?_⟩
  have look := Sem.wp_nsGet (model r.toRowW.claim.prog w) Γ₀ (fun e _ s' => r.toRowW.claim.Ends s args vs s₁ (.error e) s' ∧ s'.os = s.os ∧ AllBare s'.gens ∧ (r.writes = true → namesKept r.toRowW.claim.prog r.keeps s.heap s'.heap ∧ ∀ x ∈ r.toRowW.claim.records, ∀ a, classAt s.heap x.1 = some a → recordClass s'.heap a x.1 (x.2.map (·.1)) = true)) default s₁ G₁.T.g r.name
  rw [Sem.wp_bind']
  refine Eq.mpr (look _) ?_
  rw [h1]
  dsimp only
  rw [Sem.wp_bind']
  exact Sem.wp_mono _ _ _ (fun v p s' g => ⟨_, rfl, (told g).1, (told g).2.1, (told g).2.2, fun qq => ⟨namesKept_of ran isNs _ keeps g.2.1.old, noTable hwr qq⟩⟩)
    (fun e p s' g => ⟨(told g).1, (told g).2.1, (told g).2.2, fun qq => ⟨namesKept_of ran isNs _ keeps g.2.1.old, noTable hwr qq⟩⟩) _ _ Z
end
section
open PySem PySem.W PySem.W.X PyProof.Rows
namespace Mine
abbrev prog0 : Program := PySem.Challenge.rw_op0012_01.row.prog
/-- code, its table: the pairs of the top -/
def pairs0 : List (Nat × Nat) := [(9, 8), (13, 12), (20, 16), (27, 26), (40, 36), (47, 43), (55, 51), (62, 61), (75, 71), (82, 78), (89, 85), (97, 93), (105, 101), (112, 108), (119, 115), (124, 122), (129, 127), (134, 132)]
def tabsOf (t : KT) : List (Nat × Nat) → Ch
  | [] => []
  | (_, q) :: l => match t.get q with
    | some ⟨.none, none, .fields vs, ⟨[]⟩⟩ => (q, vs) :: tabsOf t l
    | _ => tabsOf t l
/-- the letters: their values, their signs; the head's sum -/
structure Lt where
  v : Nat → Int
  c : Nat → Nat
  h : Int
/-- a letter's sign; 9 stands for A -/
def lc (L : Lt) (r : Nat) : Nat := match Nat.beq r 9 with
  | true => 65
  | false => L.c r
/-- a text of letters -/
def rel (L : Lt) (s : List Nat) : Str := ⟨⟨s.map (lc L)⟩⟩
noncomputable def mkV (K : Params → KT) (w : World) (h₀ : Heap) (vs : List Value) (R : Result → Shared → Prop) (d : Drawn) (t₀ : Nat) (os : OsState) : XV :=
  ⟨prog0, w, h₀, 137, KT.put 40 (K w.params) 136 { cls := .type "list", data := .seq vs.toArray }, tabsOf (K w.params) pairs0, callerA, R, d, t₀, os⟩
def fdK (K : Params → KT) (w : World) (a : Nat) : FuncData := match (K w.params).get a with
  | some ⟨_, _, .func f, _⟩ => f
  | _ => default
def bodyK (K : Params → KT) (w : World) (a : Nat) : List Stmt := match (fdK K w a).body with
  | .stmts b => b
  | _ => []
def kidsOf : Stmt → List Stmt
  | .For _ _ b _ _ => b
  | .While _ b _ _ => b
  | .If _ b _ _ => b
  | _ => []
def stmtAt : List Stmt → List Nat → Option Stmt
  | _, [] => none
  | l, [i] => l[i]?
  | l, i :: p => match l[i]? with
    | some s => stmtAt (kidsOf s) p
    | none => none
def loopC (s : Option Stmt) (it : Value) (env : Env) : Code := match s with
  | some (.For t _ b o _) => .forLoop t it b o env
  | some (.While t b o _) => .whileLoop t b o env
  | _ => .builtin "" {}
/-- a context with nothing handled -/
def ctxC (c : Code) (below : List (Code × Pos)) : PySem.Ctx := ⟨c, none, none, below, none⟩
def callerC : Code := .builtin "claim.caller" {}
def funcC (b : List Stmt) (env : Env) : Code := .func b env
/-- an entry under a text -/
def entS (w : World) (x : Str) (t : Nat) (v : Value) : DictEntry := ⟨PyData.keyHash w.params x, .str x t, v⟩
end Mine
end
section
open PySem PySem.W PySem.W.X PyProof.Rows
namespace Mine
theorem en_eq : entryFor table "str.__eq__" = some Builtin.«str.__eq__» := entryFor_of_tree (by kernel_rfl)
theorem en_ne : entryFor table "str.__ne__" = some Builtin.«str.__ne__» := entryFor_of_tree (by kernel_rfl)
theorem en_iter : entryFor table "str.__iter__" = some Builtin.«str.__iter__» := entryFor_of_tree (by kernel_rfl)
theorem en_index : entryFor table "str.index" = some Builtin.«str.index» := entryFor_of_tree (by kernel_rfl)
theorem en_repr : entryFor table "str.__repr__" = some Builtin.«str.__repr__» := entryFor_of_tree (by kernel_rfl)
theorem en_getitem : entryFor table "str.__getitem__" = some Builtin.«str.__getitem__» := entryFor_of_tree (by kernel_rfl)
abbrev retB (b : Bool) : Sem Fin := .pure (.done (.ret (.bool b)))
abbrev retI (x : Int) : Sem Fin := .fresh fun t => .pure (.done (.ret (.int x t)))
abbrev retS (x : Str) : Sem Fin := .fresh fun t => .pure (.done (.ret (.str x t)))
theorem tr_eq (x y : List Nat) (t u : Nat) : dF (.builtin "str.__eq__" ⟨[.str ⟨⟨x⟩⟩ t, .str ⟨⟨y⟩⟩ u], []⟩) = retB (x == y) := by
  rw [dF_builtin en_eq]
  kernel_rfl
theorem tr_ne (x y : List Nat) (t u : Nat) : dF (.builtin "str.__ne__" ⟨[.str ⟨⟨x⟩⟩ t, .str ⟨⟨y⟩⟩ u], []⟩) = retB (x != y) := by
  rw [dF_builtin en_ne]
  kernel_rfl
theorem tr_iter (x : List Nat) (t : Nat) : dF (.builtin "str.__iter__" ⟨[.str ⟨⟨x⟩⟩ t], []⟩) = .alloc ⟨.type (if (Array.mk x).all (· < 128) then "str_ascii_iterator" else "str_iterator"), none, .fields ⟨[.str ⟨⟨x⟩⟩ t, .int 0 0]⟩, #[]⟩ fun a => .pure (.done (.ret (.ref a))) := by
  rw [dF_builtin en_iter]
  kernel_rfl
theorem tr_index (x y : List Nat) (t u v : Nat) : dF (.builtin "str.index" ⟨[.str ⟨⟨x⟩⟩ t, .str ⟨⟨y⟩⟩ u, .int 0 v], []⟩) = (match Builtin.Str.occurrences ⟨⟨x⟩⟩ ⟨⟨y⟩⟩ 0 (min x.length x.length) 1 with
    | i :: _ => retInt i
    | [] => do PySem.rule "str.index.not-found"; raiseError "ValueError" "substring not found") := by
  rw [dF_builtin en_index]
  kernel_rfl

/-- the letters of a run: k of them, apart, of base 64 -/
def b64 : List Nat := [65, 66, 67, 68, 69, 70, 71, 72, 73, 74, 75, 76, 77, 78, 79, 80, 81, 82, 83, 84, 85, 86, 87, 88, 89, 90, 97, 98, 99, 100, 101, 102, 103, 104, 105, 106, 107, 108, 109, 110, 111, 112, 113, 114, 115, 116, 117, 118, 119, 120, 121, 122, 48, 49, 50, 51, 52, 53, 54, 55, 56, 57, 43, 47]
structure LtOk (L : Lt) (k : Nat) : Prop where
  v0 : ∀ r, r < k → 0 ≤ L.v r
  v1 : ∀ r, r < k → L.v r < 64
  at64 : ∀ r, r < k → b64[(L.v r).toNat]? = some (L.c r)
  inj : ∀ r s, r < k → s < k → L.c r = L.c s → r = s
  lo : ∀ r, r < k → 43 ≤ L.c r
  hi : ∀ r, r < k → L.c r ≤ 122
  ne : ∀ r, r < k → L.c r ≠ 92
  nine : k ≤ 9
variable {L : Lt} {k : Nat}
theorem LtOk.lc (h : LtOk L k) {r : Nat} (hr : r < k) : Mine.lc L r = L.c r := by
  unfold Mine.lc
  have : Nat.beq r 9 = false := by
    cases e : Nat.beq r 9 with
    | false => rfl
    | true => have := Nat.eq_of_beq_eq_true e; have := h.nine; omega
  rw [this]
abbrev okS (k : Nat) (s : List Nat) : Bool := s.all fun r => Nat.blt r k
theorem okS_mem {s : List Nat} (h : okS k s = true) : ∀ r ∈ s, r < k := fun r hr => X.blt_true (List.all_eq_true.mp h r hr)
theorem map_inj (h : LtOk L k) : ∀ {s w : List Nat}, (∀ r ∈ s, r < k) → (∀ r ∈ w, r < k) → s.map (lc L) = w.map (lc L) → s = w
  | [], [], _, _, _ => rfl
  | [], _ :: _, _, _, e => by cases e
  | _ :: _, [], _, _, e => by cases e
  | a :: s, b :: w, hs, hw, e => by
    rw [List.map_cons, List.map_cons] at e
    injection e with e1 e2
    have ha := hs a (.head _)
    have hb := hw b (.head _)
    rw [h.lc ha, h.lc hb] at e1
    rw [h.inj a b ha hb e1, map_inj h (fun r hr => hs r (.tail _ hr)) (fun r hr => hw r (.tail _ hr)) e2]
theorem map_beq (h : LtOk L k) {s w : List Nat} (hs : ∀ r ∈ s, r < k) (hw : ∀ r ∈ w, r < k) : (s.map (lc L) == w.map (lc L)) = (s == w) := by
  by_cases e : s = w
  · subst e; rw [beq_self_eq_true, beq_self_eq_true]
  · have e' : s.map (lc L) ≠ w.map (lc L) := fun z => e (map_inj h hs hw z)
    rw [beq_eq_false_iff_ne.mpr e', beq_eq_false_iff_ne.mpr e]
theorem biEq_ok (h : LtOk L k) {s w : List Nat} (hs : okS k s = true) (hw : okS k w = true) (t u : Nat) : dF (.builtin "str.__eq__" ⟨[.str (rel L s) t, .str (rel L w) u], []⟩) = retB (s == w) := by
  show dF (.builtin "str.__eq__" ⟨[.str ⟨⟨s.map (lc L)⟩⟩ t, .str ⟨⟨w.map (lc L)⟩⟩ u], []⟩) = _
  rw [tr_eq, map_beq h (okS_mem hs) (okS_mem hw)]
theorem biNe_ok (h : LtOk L k) {s w : List Nat} (hs : okS k s = true) (hw : okS k w = true) (t u : Nat) : dF (.builtin "str.__ne__" ⟨[.str (rel L s) t, .str (rel L w) u], []⟩) = retB (!(s == w)) := by
  show dF (.builtin "str.__ne__" ⟨[.str ⟨⟨s.map (lc L)⟩⟩ t, .str ⟨⟨w.map (lc L)⟩⟩ u], []⟩) = _
  rw [tr_ne]
  show retB (!(s.map (lc L) == w.map (lc L))) = _
  rw [map_beq h (okS_mem hs) (okS_mem hw)]
def biEq (h : LtOk L k) (s w : List Nat) (hs : okS k s = true) (hw : okS k w = true) : BI := ⟨"str.__eq__", fun τ => [.str (rel L s) (τ 0), .str (rel L w) (τ 1)], fun _ => retB (s == w), fun τ => go_eq (biEq_ok h hs hw _ _)⟩
def biNe (h : LtOk L k) (s w : List Nat) (hs : okS k s = true) (hw : okS k w = true) : BI := ⟨"str.__ne__", fun τ => [.str (rel L s) (τ 0), .str (rel L w) (τ 1)], fun _ => retB (!(s == w)), fun τ => go_eq (biNe_ok h hs hw _ _)⟩
/-- letters or A -/
abbrev okA (k : Nat) (s : List Nat) : Bool := s.all fun r => Nat.blt r k || Nat.beq r 9
theorem lc_small (h : LtOk L k) {r : Nat} (hr : (Nat.blt r k || Nat.beq r 9) = true) : lc L r < 128 := by
  rcases Bool.or_eq_true_iff.mp hr with q | q
  · have q := X.blt_true q
    rw [h.lc q]
    have := h.hi r q
    omega
  · unfold lc; rw [q]; show 65 < 128; decide
theorem biIter_ok (h : LtOk L k) {s : List Nat} (hs : okA k s = true) (t : Nat) : dF (.builtin "str.__iter__" ⟨[.str (rel L s) t], []⟩) = .alloc ⟨.type "str_ascii_iterator", none, .fields ⟨[.str (rel L s) t, .int 0 0]⟩, #[]⟩ fun a => .pure (.done (.ret (.ref a))) := by
  show dF (.builtin "str.__iter__" ⟨[.str ⟨⟨s.map (lc L)⟩⟩ t], []⟩) = _
  rw [tr_iter]
  have : (Array.mk (s.map (lc L))).all (· < 128) = true := by
    rw [← Array.all_toList, List.all_eq_true]
    intro x hx
    obtain ⟨r, hr, rfl⟩ := List.mem_map.mp hx
    exact decide_eq_true (lc_small h (List.all_eq_true.mp hs r hr))
  rw [if_pos this]
  rfl
def biIter (h : LtOk L k) (s : List Nat) (hs : okA k s = true) : BI := ⟨"str.__iter__", fun τ => [.str (rel L s) (τ 0)], fun τ => .alloc ⟨.type "str_ascii_iterator", none, .fields ⟨[.str (rel L s) (τ 0), .int 0 0]⟩, #[]⟩ fun a => .pure (.done (.ret (.ref a))), fun τ => go_eq (biIter_ok h hs _)⟩
theorem subAt_is (x y : List Nat) (i : Nat) : Builtin.Str.subAt ⟨⟨x⟩⟩ ⟨⟨y⟩⟩ i = ((x.drop i).take (i + y.length - i) == y) := by
  unfold Builtin.Str.subAt Str.length
  rw [List.extract_toArray]
  show ((⟨x.extract i (i + y.length)⟩ : Array Nat) == ⟨y⟩) = _
  rw [List.extract_eq_take_drop]
  by_cases e : (x.drop i).take (i + y.length - i) = y
  · rw [e]; rw [beq_self_eq_true, beq_self_eq_true]
  · rw [beq_eq_false_iff_ne.mpr e, beq_eq_false_iff_ne.mpr fun z => e (Array.mk.inj z)]
theorem subAt_map (h : LtOk L k) {s w : List Nat} (hs : ∀ r ∈ s, r < k) (hw : ∀ r ∈ w, r < k) (i : Nat) : Builtin.Str.subAt (rel L s) (rel L w) i = Builtin.Str.subAt ⟨⟨s⟩⟩ ⟨⟨w⟩⟩ i := by
  unfold rel
  rw [subAt_is, subAt_is, List.length_map, ← List.map_drop, ← List.map_take]
  exact map_beq h (fun r hr => hs r (List.mem_of_mem_drop (List.mem_of_mem_take hr))) hw
theorem occ_map (h : LtOk L k) {s w : List Nat} (hs : ∀ r ∈ s, r < k) (hw : ∀ r ∈ w, r < k) (lo hi n : Nat) : Builtin.Str.occurrences (rel L s) (rel L w) lo hi n = Builtin.Str.occurrences ⟨⟨s⟩⟩ ⟨⟨w⟩⟩ lo hi n := by
  unfold Builtin.Str.occurrences
  have e1 : (rel L w).length = (⟨⟨w⟩⟩ : Str).length := by unfold rel Str.length; show (w.map _).length = w.length; rw [List.length_map]
  simp only [subAt_map h hs hw, e1]
/-- the tree of index: the place, or the raise -/
def idxT (s w : List Nat) : Sem Fin := match Builtin.Str.occurrences ⟨⟨s⟩⟩ ⟨⟨w⟩⟩ 0 s.length 1 with
    | i :: _ => retI i
    | [] => do PySem.rule "str.index.not-found"; raiseError "ValueError" "substring not found"
theorem biIndex_ok (h : LtOk L k) {s w : List Nat} (hs : okS k s = true) (hw : okS k w = true) (t u v : Nat) : dF (.builtin "str.index" ⟨[.str (rel L s) t, .str (rel L w) u, .int 0 v], []⟩) = idxT s w := by
  have e := tr_index (s.map (lc L)) (w.map (lc L)) t u v
  have o := occ_map h (okS_mem hs) (okS_mem hw) 0 s.length 1
  unfold rel at o ⊢
  rw [Nat.min_self, List.length_map, o] at e
  exact e
def biIndex (h : LtOk L k) (s w : List Nat) (hs : okS k s = true) (hw : okS k w = true) : BI := ⟨"str.index", fun τ => [.str (rel L s) (τ 0), .str (rel L w) (τ 1), .int 0 (τ 2)], fun _ => idxT s w, fun τ => go_eq (biIndex_ok h hs hw _ _ _)⟩

/-- a sign that a repr leaves as it is -/
theorem repr_plain : ∀ c, 43 ≤ c → c ≤ 122 → c ≠ 92 → Builtin.Str.reprChar 39 c = [c] := by
  have : ∀ c : Fin 123, 43 ≤ c.1 → c.1 ≠ 92 → Builtin.Str.reprChar 39 c.1 = [c.1] := by decide +kernel
  intro c h1 h2 h3
  exact this ⟨c, by omega⟩ h1 h3
theorem repr_loop {q : Nat} : ∀ (l : List Nat) (out : Array Nat), (∀ c ∈ l, Builtin.Str.reprChar q c = [c]) → ((forIn l out fun c r => (Pure.pure (ForInStep.yield (r ++ (Builtin.Str.reprChar q c).toArray)) : Sem (ForInStep (Array Nat)))) : Sem (Array Nat)) = Pure.pure (out ++ l.toArray)
  | [], out, _ => by simp
  | c :: l, out, h => by
    have ih := repr_loop l (out ++ [c].toArray) fun c hc => h c (.tail _ hc)
    rw [List.forIn_cons, h c (.head _)]
    refine Eq.trans ?_ (ih.trans ?_)
    · rfl
    · simp
theorem tr_repr {x : List Nat} (hx : ∀ c ∈ x, 43 ≤ c ∧ c ≤ 122 ∧ c ≠ 92) (hl : x.length ≤ 100) (t : Nat) : dF (.builtin "str.__repr__" ⟨[.str ⟨⟨x⟩⟩ t], []⟩) = retS ⟨⟨39 :: (x ++ [39])⟩⟩ := by
  rw [dF_builtin en_repr]
  have q39 : (Array.mk x).contains 39 = false := by
    rw [Bool.eq_false_iff]
    intro z
    have := Array.contains_iff_mem.mp z
    have := hx 39 (by simpa using this)
    omega
  have loop := repr_loop (q := 39) x #[39] fun c hc => repr_plain c (hx c hc).1 (hx c hc).2.1 (hx c hc).2.2
  have slot : Builtin.Str.strSlot "__repr__" 0 ⟨[.str ⟨⟨x⟩⟩ t], []⟩ = Pure.pure (.str ⟨⟨x⟩⟩ t, ⟨⟨x⟩⟩, []) := by kernel_rfl
  have small : decide (10 * (⟨⟨x⟩⟩ : Str).length + 2 > sizeLine) = false := by
    have e1 : (⟨⟨x⟩⟩ : Str).length = x.length := rfl
    have e2 : sizeLine = 16777216 := by decide
    rw [e1, e2]
    exact decide_eq_false (by omega)
  unfold Builtin.«str.__repr__»
  rw [slot, pure_bind]
  dsimp only
  rw [small, q39, Bool.false_and, Bool.false_and, if_neg Bool.false_ne_true, if_neg Bool.false_ne_true]
  have fa : ∀ (f : Nat → Array Nat → Sem (ForInStep (Array Nat))), (forIn (Array.mk x) #[39] f : Sem (Array Nat)) = forIn x #[39] f := fun f => by rw [← Array.forIn_toList]
  rw [fa, loop, pure_bind]
  have e3 : (#[39] ++ x.toArray).push 39 = ⟨39 :: (x ++ [39])⟩ := by
    apply Array.ext'
    simp
  rw [e3]
  unfold retStr mkStr
  rw [if_neg]
  · rfl
  · have e2 : sizeLine = 16777216 := by decide
    show ¬ (39 :: (x ++ [39])).length > sizeLine
    rw [e2]
    simp
    omega
theorem biRepr_ok (h : LtOk L k) {s : List Nat} (hs : okS k s = true) (hl : Nat.blt s.length 101 = true) (t : Nat) : dF (.builtin "str.__repr__" ⟨[.str (rel L s) t], []⟩) = retS ⟨⟨39 :: (s.map (lc L) ++ [39])⟩⟩ := by
  refine tr_repr (fun c hc => ?_) (by rw [List.length_map]; have := X.blt_true hl; omega) t
  obtain ⟨r, hr, rfl⟩ := List.mem_map.mp hc
  have q := okS_mem hs r hr
  rw [h.lc q]
  exact ⟨h.lo r q, h.hi r q, h.ne r q⟩
def biRepr (h : LtOk L k) (s : List Nat) (hs : okS k s = true) (hl : Nat.blt s.length 101 = true) : BI := ⟨"str.__repr__", fun τ => [.str (rel L s) (τ 0)], fun _ => retS ⟨⟨39 :: (s.map (lc L) ++ [39])⟩⟩, fun τ => go_eq (biRepr_ok h hs hl _)⟩
theorem tr_getitem {x : List Nat} {j : Int} {c : Nat} (h0 : 0 ≤ j) (hj : j < x.length) (hx : x.length ≤ 100) (hc : x[j.toNat]? = some c) (t u : Nat) : dF (.builtin "str.__getitem__" ⟨[.str ⟨⟨x⟩⟩ t, .int j u], []⟩) = retS ⟨⟨[c]⟩⟩ := by
  rw [dF_builtin en_getitem]
  have slot : Builtin.Str.strSlot "__getitem__" 1 ⟨[.str ⟨⟨x⟩⟩ t, .int j u], []⟩ = Pure.pure (.str ⟨⟨x⟩⟩ t, ⟨⟨x⟩⟩, [.int j u]) := by kernel_rfl
  have ty : typeOf (.int j u) = Pure.pure (.type "int") := by kernel_rfl
  have sp : specialOf (.int j u) "__index__" = Pure.pure (some (.builtin "int.__index__")) := by kernel_rfl
  have ix : asIndex (.int j u) = Pure.pure j := by kernel_rfl
  unfold Builtin.«str.__getitem__»
  rw [slot, pure_bind]
  dsimp only [List.headD]
  rw [ty, pure_bind, if_neg (by decide), sp, pure_bind]
  rw [if_neg (by decide), ix, pure_bind]
  have rng : (decide (j < -2 ^ 63) || decide (j ≥ 2 ^ 63)) = false := by
    rw [decide_eq_false (by omega), decide_eq_false (by omega)]; rfl
  rw [rng, if_neg Bool.false_ne_true]
  have sq : seqIndex? j (⟨⟨x⟩⟩ : Str).length = some j.toNat := by
    have e : (⟨⟨x⟩⟩ : Str).length = x.length := rfl
    rw [e]
    unfold seqIndex?
    have n0 : ¬ j < 0 := by omega
    have : (decide (0 ≤ j) && decide (j < (x.length : Int))) = true := by rw [decide_eq_true h0, decide_eq_true hj]; rfl
    simp only [n0, if_false, this, if_true]
  rw [sq]
  have gt : ((some j.toNat).bind fun i => (Array.mk x)[i]?) = some c := by
    show (Array.mk x)[j.toNat]? = some c
    simpa using hc
  rw [gt]
  show retStr ⟨#[c]⟩ = _
  unfold retStr mkStr
  rw [if_neg]
  · rfl
  · have e2 : sizeLine = 16777216 := by decide
    show ¬ [c].length > sizeLine
    rw [e2]
    simp
theorem biGet_ok (h : LtOk L k) {r : Nat} (hr : Nat.blt r k = true) (t u : Nat) : dF (.builtin "str.__getitem__" ⟨[.str ⟨⟨b64⟩⟩ t, .int (L.v r) u], []⟩) = retS ⟨⟨[lc L r]⟩⟩ := by
  have q := X.blt_true hr
  rw [h.lc q]
  exact tr_getitem (x := b64) (h.v0 r q) (h.v1 r q) (by decide) (h.at64 r q) t u
def biGet (h : LtOk L k) (r : Nat) (hr : Nat.blt r k = true) : BI := ⟨"str.__getitem__", fun τ => [.str ⟨⟨b64⟩⟩ (τ 0), .int (L.v r) (τ 1)], fun _ => retS ⟨⟨[lc L r]⟩⟩, fun τ => go_eq (biGet_ok h hr _ _)⟩
end Mine
end
section
open PySem PySem.W PySem.W.X PyProof.Rows
namespace Mine
theorem en_ieq : entryFor table "int.__eq__" = some Builtin.«int.__eq__» := entryFor_of_tree (by kernel_rfl)
theorem en_ile : entryFor table "int.__le__" = some Builtin.«int.__le__» := entryFor_of_tree (by kernel_rfl)
theorem en_ige : entryFor table "int.__ge__" = some Builtin.«int.__ge__» := entryFor_of_tree (by kernel_rfl)
theorem en_ilt : entryFor table "int.__lt__" = some Builtin.«int.__lt__» := entryFor_of_tree (by kernel_rfl)
theorem en_iadd : entryFor table "int.__add__" = some Builtin.«int.__add__» := entryFor_of_tree (by kernel_rfl)
theorem en_isub : entryFor table "int.__sub__" = some Builtin.«int.__sub__» := entryFor_of_tree (by kernel_rfl)
theorem en_imul : entryFor table "int.__mul__" = some Builtin.«int.__mul__» := entryFor_of_tree (by kernel_rfl)
theorem en_idiv : entryFor table "int.__floordiv__" = some Builtin.«int.__floordiv__» := entryFor_of_tree (by kernel_rfl)
theorem en_imod : entryFor table "int.__mod__" = some Builtin.«int.__mod__» := entryFor_of_tree (by kernel_rfl)
theorem en_iand : entryFor table "int.__and__" = some Builtin.«int.__and__» := entryFor_of_tree (by kernel_rfl)
theorem en_ior : entryFor table "int.__or__" = some Builtin.«int.__or__» := entryFor_of_tree (by kernel_rfl)
theorem en_ilsh : entryFor table "int.__lshift__" = some Builtin.«int.__lshift__» := entryFor_of_tree (by kernel_rfl)
theorem en_irsh : entryFor table "int.__rshift__" = some Builtin.«int.__rshift__» := entryFor_of_tree (by kernel_rfl)
theorem tr_ieq (a b : Int) (t u : Nat) : dF (.builtin "int.__eq__" ⟨[.int a t, .int b u], []⟩) = retB (a == b) := by rw [dF_builtin en_ieq]; kernel_rfl
theorem tr_ile (a b : Int) (t u : Nat) : dF (.builtin "int.__le__" ⟨[.int a t, .int b u], []⟩) = retB (decide (a ≤ b)) := by rw [dF_builtin en_ile]; kernel_rfl
theorem tr_ige (a b : Int) (t u : Nat) : dF (.builtin "int.__ge__" ⟨[.int a t, .int b u], []⟩) = retB (decide (a ≥ b)) := by rw [dF_builtin en_ige]; kernel_rfl
theorem tr_ilt (a b : Int) (t u : Nat) : dF (.builtin "int.__lt__" ⟨[.int a t, .int b u], []⟩) = retB (decide (a < b)) := by rw [dF_builtin en_ilt]; kernel_rfl
theorem tr_iadd (a b : Int) (t u : Nat) : dF (.builtin "int.__add__" ⟨[.int a t, .int b u], []⟩) = retI (a + b) := by rw [dF_builtin en_iadd]; kernel_rfl
theorem tr_isub (a b : Int) (t u : Nat) : dF (.builtin "int.__sub__" ⟨[.int a t, .int b u], []⟩) = retI (a - b) := by rw [dF_builtin en_isub]; kernel_rfl
theorem tr_iand (a b : Int) (t u : Nat) : dF (.builtin "int.__and__" ⟨[.int a t, .int b u], []⟩) = retI (Builtin.bitAnd a b) := by rw [dF_builtin en_iand]; kernel_rfl
theorem tr_ior (a b : Int) (t u : Nat) : dF (.builtin "int.__or__" ⟨[.int a t, .int b u], []⟩) = retI (Builtin.bitOr a b) := by rw [dF_builtin en_ior]; kernel_rfl
theorem tr_imod (a b : Int) (hb : b ≠ 0) (t u : Nat) : dF (.builtin "int.__mod__" ⟨[.int a t, .int b u], []⟩) = retI (a.fmod b) := by
  rw [dF_builtin en_imod]
  have e : Builtin.«int.__mod__» ⟨[.int a t, .int b u], []⟩ = (if (b == 0) = true then (do PySem.rule "int.mod.zero"; let r ← (raiseError "ZeroDivisionError" "integer modulo by zero" : Sem Unit); (fun _ => retInt (a.fmod b)) r) else retInt (a.fmod b)) := by kernel_rfl
  rw [e, if_neg (by simpa using hb)]
  rfl
end Mine
end
section
open PySem PySem.W PySem.W.X PyProof.Rows
namespace Mine
theorem tr_imul (a b : Int) (hb : decide (Builtin.Int.intBits b > shortFactorBits) = false) (t u : Nat) : dF (.builtin "int.__mul__" ⟨[.int a t, .int b u], []⟩) = retI (a * b) := by
  rw [dF_builtin en_imul]
  have e : Builtin.«int.__mul__» ⟨[.int a t, .int b u], []⟩ = (if (decide (Builtin.Int.intBits a > shortFactorBits) && decide (Builtin.Int.intBits b > shortFactorBits) && Builtin.Int.intTooBig (Builtin.Int.intBits a + Builtin.Int.intBits b : Nat)) = true then (do let r ← (unsupported "int.__mul__:memory" : Sem Unit); (fun _ => retInt (a * b)) r) else retInt (a * b)) := by kernel_rfl
  rw [e, hb, Bool.and_false, Bool.false_and, if_neg (by decide)]
  rfl
theorem tr_idiv (a b : Int) (hb : b ≠ 0) (hd : Builtin.divisionGoesByPylong a b = false) (t u : Nat) : dF (.builtin "int.__floordiv__" ⟨[.int a t, .int b u], []⟩) = retI (a.fdiv b) := by
  rw [dF_builtin en_idiv]
  have e : Builtin.«int.__floordiv__» ⟨[.int a t, .int b u], []⟩ = (if (b == 0) = true then (do PySem.rule "int.floordiv.zero"; let r ← (raiseError "ZeroDivisionError" "integer division or modulo by zero" : Sem Unit); (fun _ => do Builtin.roomForPylong a b; retInt (a.fdiv b)) r) else (do Builtin.roomForPylong a b; retInt (a.fdiv b))) := by kernel_rfl
  rw [e, if_neg (by simpa using hb)]
  unfold Builtin.roomForPylong
  rw [hd]
  rfl
open Builtin.Int in
theorem tr_ilsh (x : Int) (n : Int) (hn : n = 2 ∨ n = 4 ∨ n = 6) (h0 : 0 ≤ x) (h1 : x < 64) (t u : Nat) {V : XV} {Γ : PySem.Ctx} {p : Pos} {κ : KX} {T : KT} {m i : Nat} {ch : Ch} (H : GoX V Γ p κ (retI (x * 2 ^ n.toNat)) T m i ch) : GoX V Γ p κ (dF (.builtin "int.__lshift__" ⟨[.int x t, .int n u], []⟩)) T m i ch := by
  have bits : intBits x ≤ 6 := by
    unfold intBits
    split
    · omega
    · rename_i hx
      have hx' : x.natAbs ≠ 0 := by simpa using hx
      have : x.natAbs < 2 ^ 6 := by omega
      have := (Nat.log2_lt hx').mpr this
      omega
  have e : Builtin.«int.__lshift__» ⟨[.int x t, .int n u], []⟩ = (if n < 0 then (do PySem.rule "int.lshift.negative"; let r ← (raiseError "ValueError" "negative shift count" : Sem Unit); (fun _ => if (x == 0) = true then (do PySem.rule "int.lshift.zero"; retInt 0) else if ((intBits x : Int) + 29) / 30 + n / 30 + (if (n % 30 == 0) = true then 0 else 1) > Builtin.maxDigits then (do PySem.rule "int.lshift.too-many-digits"; let r ← (raiseError "OverflowError" "too many digits in integer" : Sem Unit); (fun _ => if intTooBig (intBits x + n) = true then (do let r ← (unsupported "int.__lshift__:memory" : Sem Unit); (fun _ => retInt (x * 2 ^ n.toNat)) r) else retInt (x * 2 ^ n.toNat)) r) else if intTooBig (intBits x + n) = true then (do let r ← (unsupported "int.__lshift__:memory" : Sem Unit); (fun _ => retInt (x * 2 ^ n.toNat)) r) else retInt (x * 2 ^ n.toNat)) r) else if (x == 0) = true then (do PySem.rule "int.lshift.zero"; retInt 0) else if ((intBits x : Int) + 29) / 30 + n / 30 + (if (n % 30 == 0) = true then 0 else 1) > Builtin.maxDigits then (do PySem.rule "int.lshift.too-many-digits"; let r ← (raiseError "OverflowError" "too many digits in integer" : Sem Unit); (fun _ => if intTooBig (intBits x + n) = true then (do let r ← (unsupported "int.__lshift__:memory" : Sem Unit); (fun _ => retInt (x * 2 ^ n.toNat)) r) else retInt (x * 2 ^ n.toNat)) r) else if intTooBig (intBits x + n) = true then (do let r ← (unsupported "int.__lshift__:memory" : Sem Unit); (fun _ => retInt (x * 2 ^ n.toNat)) r) else retInt (x * 2 ^ n.toNat)) := by kernel_rfl
  rw [dF_builtin en_ilsh, e, if_neg (by omega)]
  by_cases hx : x = 0
  · subst hx
    rw [if_pos (by decide)]
    refine gx_rule ?_
    rw [Int.zero_mul] at H
    exact H
  · rw [if_neg (by simpa using hx)]
    have md : Builtin.maxDigits = 2305843009213693945 := by decide
    have bl : (bitsLine : Int) = 134217728 := by decide
    rw [if_neg, if_neg]
    · exact H
    · unfold intTooBig
      rw [bl]
      simp only [decide_eq_true_eq]
      omega
    · rw [md]
      split <;> omega
open Builtin.Int in
theorem tr_irsh (x : Int) (n : Int) (hn : n = 2 ∨ n = 4) (h0 : 0 ≤ x) (h1 : x < 64) (t u : Nat) {V : XV} {Γ : PySem.Ctx} {p : Pos} {κ : KX} {T : KT} {m i : Nat} {ch : Ch} (H : GoX V Γ p κ (retI (x / 2 ^ n.toNat)) T m i ch) : GoX V Γ p κ (dF (.builtin "int.__rshift__" ⟨[.int x t, .int n u], []⟩)) T m i ch := by
  have e : Builtin.«int.__rshift__» ⟨[.int x t, .int n u], []⟩ = (if n < 0 then (do PySem.rule "int.rshift.negative"; let r ← (raiseError "ValueError" "negative shift count" : Sem Unit); (fun _ => if n ≥ intBits x then (do PySem.rule "int.rshift.all-bits"; retInt (if x < 0 then -1 else 0)) else retInt (x.fdiv (2 ^ n.toNat))) r) else if n ≥ intBits x then (do PySem.rule "int.rshift.all-bits"; retInt (if x < 0 then -1 else 0)) else retInt (x.fdiv (2 ^ n.toNat))) := by kernel_rfl
  rw [dF_builtin en_irsh, e, if_neg (by omega)]
  by_cases hb : n ≥ intBits x
  · rw [if_pos hb, if_neg (by omega)]
    refine gx_rule ?_
    have z : x / 2 ^ n.toNat = 0 := by
      apply Int.ediv_eq_zero_of_lt h0
      unfold intBits at hb
      split at hb
      · rename_i hx
        have : x = 0 := by simpa using hx
        subst this
        exact Int.pow_pos (by decide)
      · rename_i hx
        have hx' : x.natAbs ≠ 0 := by simpa using hx
        have h2 : x.natAbs.log2 < n.toNat := by omega
        have h3 := (Nat.log2_lt hx').mp h2
        have h4 : ((2 ^ n.toNat : Nat) : Int) = (2 : Int) ^ n.toNat := by simp
        rw [← h4]
        omega
    rw [z] at H
    exact H
  · rw [if_neg hb, Int.fdiv_eq_ediv_of_nonneg x (Int.le_of_lt (Int.pow_pos (by decide)))]
    exact H
end Mine
end
section
open PySem PySem.W PySem.W.X PyProof.Rows
namespace Mine
/-- a letter's value; that of 9, 'A', is nought -/
def lv (L : Lt) (r : Nat) : Int := match Nat.beq r 9 with
  | true => 0
  | false => L.v r
/-- a letter's sign as bytes give it -/
def bv (L : Lt) (r : Nat) : Int := Int.ofNat (UInt8.ofNat (lc L r)).toNat
def bLe (a b : Int) (z : Bool) (h : decide (a ≤ b) = z) : BI := ⟨"int.__le__", fun τ => [.int a (τ 0), .int b (τ 1)], fun _ => retB z, fun τ => go_eq (by rw [tr_ile, h])⟩
def bGe (a b : Int) (z : Bool) (h : decide (a ≥ b) = z) : BI := ⟨"int.__ge__", fun τ => [.int a (τ 0), .int b (τ 1)], fun _ => retB z, fun τ => go_eq (by rw [tr_ige, h])⟩
def bEqI (a b : Int) (z : Bool) (h : (a == b) = z) : BI := ⟨"int.__eq__", fun τ => [.int a (τ 0), .int b (τ 1)], fun _ => retB z, fun τ => go_eq (by rw [tr_ieq, h])⟩
def bAdd (a b z : Int) (h : a + b = z) : BI := ⟨"int.__add__", fun τ => [.int a (τ 0), .int b (τ 1)], fun _ => retI z, fun τ => go_eq (by rw [tr_iadd, h])⟩
def bSub (a b z : Int) (h : a - b = z) : BI := ⟨"int.__sub__", fun τ => [.int a (τ 0), .int b (τ 1)], fun _ => retI z, fun τ => go_eq (by rw [tr_isub, h])⟩
def bAnd (a b z : Int) (h : Builtin.bitAnd a b = z) : BI := ⟨"int.__and__", fun τ => [.int a (τ 0), .int b (τ 1)], fun _ => retI z, fun τ => go_eq (by rw [tr_iand, h])⟩
def bOr (a b z : Int) (h : Builtin.bitOr a b = z) : BI := ⟨"int.__or__", fun τ => [.int a (τ 0), .int b (τ 1)], fun _ => retI z, fun τ => go_eq (by rw [tr_ior, h])⟩
def bMul64 (a z : Int) (h : a * 64 = z) : BI := ⟨"int.__mul__", fun τ => [.int a (τ 0), .int 64 (τ 1)], fun _ => retI z, fun τ => go_eq (by rw [tr_imul a 64 (by decide), h])⟩
theorem pyl (a b : Int) (hb : 0 < b) (hb' : b < 65537) : Builtin.divisionGoesByPylong a b = false := by
  unfold Builtin.divisionGoesByPylong
  have h0 : b.natAbs ≠ 0 := by omega
  have h1 : b.natAbs.log2 < 17 := (Nat.log2_lt h0).mpr (by omega)
  have h2 : ¬ ((b == 0) = true) := by simp; omega
  have h3 : b.natAbs.log2 / 30 = 0 := by omega
  simp only [if_neg h2, h3]
  rfl
def bDiv (a b z : Int) (hb : 0 < b) (hb' : b < 65537) (h : a / b = z) : BI := ⟨"int.__floordiv__", fun τ => [.int a (τ 0), .int b (τ 1)], fun _ => retI z, fun τ => go_eq (by rw [tr_idiv a b (by omega) (pyl a b hb hb'), Int.fdiv_eq_ediv_of_nonneg a (Int.le_of_lt hb), h])⟩
def bMod (a b z : Int) (hb : 0 < b) (h : a % b = z) : BI := ⟨"int.__mod__", fun τ => [.int a (τ 0), .int b (τ 1)], fun _ => retI z, fun τ => go_eq (by rw [tr_imod a b (by omega), Int.fmod_eq_emod_of_nonneg a (Int.le_of_lt hb), h])⟩
def bShl (a n z : Int) (hn : n = 2 ∨ n = 4 ∨ n = 6) (h0 : 0 ≤ a ∧ a < 64) (h : a * 2 ^ n.toNat = z) : BI := ⟨"int.__lshift__", fun τ => [.int a (τ 0), .int n (τ 1)], fun _ => retI z, fun τ _ _ _ _ _ _ _ _ H => tr_ilsh a n hn h0.1 h0.2 _ _ (by rw [h]; exact H)⟩
def bShr (a n z : Int) (hn : n = 2 ∨ n = 4) (h0 : 0 ≤ a ∧ a < 64) (h : a / 2 ^ n.toNat = z) : BI := ⟨"int.__rshift__", fun τ => [.int a (τ 0), .int n (τ 1)], fun _ => retI z, fun τ _ _ _ _ _ _ _ _ H => tr_irsh a n hn h0.1 h0.2 _ _ (by rw [h]; exact H)⟩
/-- a letter set -/
def setL (L : Lt) (r : Nat) (v : Int) (c : Nat) : Lt := ⟨fun s => match Nat.beq s r with | true => v | false => L.v s, fun s => match Nat.beq s r with | true => c | false => L.c s, L.h⟩
theorem setL_eq {L : Lt} {r : Nat} {v : Int} {c : Nat} (hv : L.v r = v) (hc : L.c r = c) : setL L r v c = L := by
  have e1 : (fun s => match Nat.beq s r with | true => v | false => L.v s) = L.v := by
    funext s
    cases e : Nat.beq s r with
    | true => rw [Nat.eq_of_beq_eq_true e, hv]
    | false => rfl
  have e2 : (fun s => match Nat.beq s r with | true => c | false => L.c s) = L.c := by
    funext s
    cases e : Nat.beq s r with
    | true => rw [Nat.eq_of_beq_eq_true e, hc]
    | false => rfl
  unfold setL
  rw [e1, e2]
/-- a letter or A -/
abbrev okr (k r : Nat) : Bool := Nat.blt r k || Nat.beq r 9
theorem lv_ok {L : Lt} {k : Nat} (h : LtOk L k) {r : Nat} (hr : okr k r = true) : 0 ≤ lv L r ∧ lv L r < 64 := by
  unfold lv
  cases e : Nat.beq r 9 with
  | true => exact ⟨Int.le_refl _, by show (0 : Int) < 64; decide⟩
  | false =>
    have hr : r < k := by
      rcases Bool.or_eq_true_iff.mp hr with q | q
      · exact X.blt_true q
      · rw [e] at q; cases q
    exact ⟨h.v0 r hr, h.v1 r hr⟩
def sh2 (L : Lt) (a : Nat) : Int := lv L a * 4
def hi4 (L : Lt) (b : Nat) : Int := lv L b / 16
def q0 (L : Lt) (a b : Nat) : Int := lv L a * 4 + lv L b / 16
def lo4 (L : Lt) (b : Nat) : Int := lv L b % 16
def sh4 (L : Lt) (b : Nat) : Int := lv L b % 16 * 16
def hi2 (L : Lt) (c : Nat) : Int := lv L c / 4
def q1 (L : Lt) (b c : Nat) : Int := lv L b % 16 * 16 + lv L c / 4
def lo2 (L : Lt) (c : Nat) : Int := lv L c % 4
def sh6 (L : Lt) (c : Nat) : Int := lv L c % 4 * 64
def q2 (L : Lt) (c d : Nat) : Int := lv L c % 4 * 64 + lv L d
def n2 (L : Lt) (a b : Nat) : Int := lv L a * 64 + lv L b
def n3 (L : Lt) (a b c : Nat) : Int := (lv L a * 64 + lv L b) * 64 + lv L c
def n4 (L : Lt) (a b c d : Nat) : Int := ((lv L a * 64 + lv L b) * 64 + lv L c) * 64 + lv L d
def m1 (L : Lt) (a : Nat) : Int := lv L a * 64
def m2 (L : Lt) (a b : Nat) : Int := (lv L a * 64 + lv L b) * 64
def m3 (L : Lt) (a b c : Nat) : Int := ((lv L a * 64 + lv L b) * 64 + lv L c) * 64
def d1 (L : Lt) (a b c d : Nat) : Int := (((lv L a * 64 + lv L b) * 64 + lv L c) * 64 + lv L d) / 256
theorem or_0 : ∀ x y : Int, 0 ≤ x → x < 64 → 0 ≤ y → y < 64 → Builtin.bitOr (x * 4) (y / 16) = x * 4 + y / 16 := by
  have : ∀ x y : Fin 64, Builtin.bitOr ((x.1 : Int) * 4) ((y.1 : Int) / 16) = (x.1 : Int) * 4 + (y.1 : Int) / 16 := by decide +kernel
  intro x y h1 h2 h3 h4
  have z := this ⟨x.toNat, by omega⟩ ⟨y.toNat, by omega⟩
  simpa only [Int.toNat_of_nonneg h1, Int.toNat_of_nonneg h3] using z
theorem or_1 : ∀ x y : Int, 0 ≤ x → x < 64 → 0 ≤ y → y < 64 → Builtin.bitOr (x % 16 * 16) (y / 4) = x % 16 * 16 + y / 4 := by
  have : ∀ x y : Fin 64, Builtin.bitOr ((x.1 : Int) % 16 * 16) ((y.1 : Int) / 4) = (x.1 : Int) % 16 * 16 + (y.1 : Int) / 4 := by decide +kernel
  intro x y h1 h2 h3 h4
  have z := this ⟨x.toNat, by omega⟩ ⟨y.toNat, by omega⟩
  simpa only [Int.toNat_of_nonneg h1, Int.toNat_of_nonneg h3] using z
theorem or_2 : ∀ x y : Int, 0 ≤ x → x < 64 → 0 ≤ y → y < 64 → Builtin.bitOr (x % 4 * 64) y = x % 4 * 64 + y := by
  have : ∀ x y : Fin 64, Builtin.bitOr ((x.1 : Int) % 4 * 64) (y.1 : Int) = (x.1 : Int) % 4 * 64 + (y.1 : Int) := by decide +kernel
  intro x y h1 h2 h3 h4
  have z := this ⟨x.toNat, by omega⟩ ⟨y.toNat, by omega⟩
  simpa only [Int.toNat_of_nonneg h1, Int.toNat_of_nonneg h3] using z
theorem and_15 : ∀ x : Int, 0 ≤ x → x < 64 → Builtin.bitAnd x 15 = x % 16 := by
  have : ∀ x : Fin 64, Builtin.bitAnd (x.1 : Int) 15 = (x.1 : Int) % 16 := by decide +kernel
  intro x h1 h2
  have z := this ⟨x.toNat, by omega⟩
  simpa only [Int.toNat_of_nonneg h1] using z
theorem and_3 : ∀ x : Int, 0 ≤ x → x < 64 → Builtin.bitAnd x 3 = x % 4 := by
  have : ∀ x : Fin 64, Builtin.bitAnd (x.1 : Int) 3 = (x.1 : Int) % 4 := by decide +kernel
  intro x h1 h2
  have z := this ⟨x.toNat, by omega⟩
  simpa only [Int.toNat_of_nonneg h1] using z
section
variable {L : Lt} {k : Nat} (h : LtOk L k)
def aShl2 (a : Nat) (ha : okr k a = true) : BI := bShl (lv L a) 2 (sh2 L a) (.inl rfl) (lv_ok h ha) rfl
def aShr4 (b : Nat) (hb : okr k b = true) : BI := bShr (lv L b) 4 (hi4 L b) (.inr rfl) (lv_ok h hb) rfl
def aOr0 (a b : Nat) (ha : okr k a = true) (hb : okr k b = true) : BI := bOr (sh2 L a) (hi4 L b) (q0 L a b) (or_0 _ _ (lv_ok h ha).1 (lv_ok h ha).2 (lv_ok h hb).1 (lv_ok h hb).2)
def aAnd15 (b : Nat) (hb : okr k b = true) : BI := bAnd (lv L b) 15 (lo4 L b) (and_15 _ (lv_ok h hb).1 (lv_ok h hb).2)
def aShl4 (b : Nat) (hb : okr k b = true) : BI := bShl (lo4 L b) 4 (sh4 L b) (.inr (.inl rfl)) (by have := lv_ok h hb; unfold lo4; omega) rfl
def aShr2 (c : Nat) (hc : okr k c = true) : BI := bShr (lv L c) 2 (hi2 L c) (.inl rfl) (lv_ok h hc) rfl
def aOr1 (b c : Nat) (hb : okr k b = true) (hc : okr k c = true) : BI := bOr (sh4 L b) (hi2 L c) (q1 L b c) (or_1 _ _ (lv_ok h hb).1 (lv_ok h hb).2 (lv_ok h hc).1 (lv_ok h hc).2)
def aAnd3 (c : Nat) (hc : okr k c = true) : BI := bAnd (lv L c) 3 (lo2 L c) (and_3 _ (lv_ok h hc).1 (lv_ok h hc).2)
def aShl6 (c : Nat) (hc : okr k c = true) : BI := bShl (lo2 L c) 6 (sh6 L c) (.inr (.inr rfl)) (by have := lv_ok h hc; unfold lo2; omega) rfl
def aOr2 (c d : Nat) (hc : okr k c = true) (hd : okr k d = true) : BI := bOr (sh6 L c) (lv L d) (q2 L c d) (or_2 _ _ (lv_ok h hc).1 (lv_ok h hc).2 (lv_ok h hd).1 (lv_ok h hd).2)
def aAdd1 (L : Lt) (a : Nat) : BI := bAdd 0 (lv L a) (lv L a) (Int.zero_add _)
def aMul1 (L : Lt) (a : Nat) : BI := bMul64 (lv L a) (m1 L a) rfl
def aAdd2 (L : Lt) (a b : Nat) : BI := bAdd (m1 L a) (lv L b) (n2 L a b) rfl
def aMul2 (L : Lt) (a b : Nat) : BI := bMul64 (n2 L a b) (m2 L a b) rfl
def aAdd3 (L : Lt) (a b c : Nat) : BI := bAdd (m2 L a b) (lv L c) (n3 L a b c) rfl
def aMul3 (L : Lt) (a b c : Nat) : BI := bMul64 (n3 L a b c) (m3 L a b c) rfl
def aAdd4 (L : Lt) (a b c d : Nat) : BI := bAdd (m3 L a b c) (lv L d) (n4 L a b c d) rfl
def aDiv0 (a b c d : Nat) (ha : okr k a = true) (hb : okr k b = true) (hc : okr k c = true) (hd : okr k d = true) : BI := bDiv (n4 L a b c d) 65536 (q0 L a b) (by decide) (by decide) (by
  have := lv_ok h ha; have := lv_ok h hb; have := lv_ok h hc; have := lv_ok h hd; unfold n4 q0; omega)
def aDiv1 (L : Lt) (a b c d : Nat) : BI := bDiv (n4 L a b c d) 256 (d1 L a b c d) (by decide) (by decide) rfl
def aMod1 (a b c d : Nat) (ha : okr k a = true) (hb : okr k b = true) (hc : okr k c = true) (hd : okr k d = true) : BI := bMod (d1 L a b c d) 256 (q1 L b c) (by decide) (by
  have := lv_ok h ha; have := lv_ok h hb; have := lv_ok h hc; have := lv_ok h hd; unfold d1 q1; omega)
def aMod2 (a b c d : Nat) (ha : okr k a = true) (hb : okr k b = true) (hc : okr k c = true) (hd : okr k d = true) : BI := bMod (n4 L a b c d) 256 (q2 L c d) (by decide) (by
  have := lv_ok h ha; have := lv_ok h hb; have := lv_ok h hc; have := lv_ok h hd; unfold n4 q2; omega)
/-- the letters' classes -/
theorem bv_is (h : LtOk L k) {r : Nat} (hr : Nat.blt r k = true) : bv L r = (L.c r : Int) := by
  have q := X.blt_true hr
  have := h.hi r q
  unfold bv
  rw [h.lc q]
  show (((UInt8.ofNat (L.c r)).toNat : Nat) : Int) = _
  rw [UInt8.toNat_ofNat']
  omega
structure Cls (L : Lt) (r : Nat) (lo hi d : Int) : Prop where
  lo : lo ≤ bv L r
  hi : bv L r ≤ hi
  d : bv L r = L.v r + d
theorem cls_of (h : LtOk L k) {r : Nat} (hr : Nat.blt r k = true) : (L.v r ≤ 25 ∧ Cls L r 65 90 65) ∨ (26 ≤ L.v r ∧ L.v r ≤ 51 ∧ Cls L r 97 122 71) ∨ (52 ≤ L.v r ∧ L.v r ≤ 61 ∧ Cls L r 48 57 (-4)) ∨ (L.v r = 62 ∧ L.c r = 43) ∨ (L.v r = 63 ∧ L.c r = 47) := by
  have q := X.blt_true hr
  have e := bv_is h hr
  have h0 := h.v0 r q
  have h1 := h.v1 r q
  have h2 := h.at64 r q
  have tab : ∀ x : Fin 64, b64[x.1]? = some (if x.1 < 26 then x.1 + 65 else if x.1 < 52 then x.1 + 71 else if x.1 < 62 then x.1 - 4 else if x.1 = 62 then 43 else 47) := by decide +kernel
  have h3 := tab ⟨(L.v r).toNat, by omega⟩
  rw [h2] at h3
  injection h3 with h3
  dsimp only at h3
  split at h3
  · exact .inl ⟨by omega, by omega, by omega, by omega⟩
  · split at h3
    · exact .inr (.inl ⟨by omega, by omega, by omega, by omega, by omega⟩)
    · split at h3
      · exact .inr (.inr (.inl ⟨by omega, by omega, by omega, by omega, by omega⟩))
      · split at h3
        · exact .inr (.inr (.inr (.inl ⟨by omega, h3⟩)))
        · exact .inr (.inr (.inr (.inr ⟨by omega, h3⟩)))
section
variable {r : Nat} {lo hi d : Int} (c : Cls L r lo hi d)
def cLeT (a : Int) (q : decide (a ≤ lo) = true) : BI := bLe a (bv L r) true (by have := c.lo; have := of_decide_eq_true q; exact decide_eq_true (by omega))
def cLeF (a : Int) (q : decide (hi < a) = true) : BI := bLe a (bv L r) false (by have := c.hi; have := of_decide_eq_true q; exact decide_eq_false (by omega))
def cGeT (b : Int) (q : decide (hi ≤ b) = true) : BI := bLe (bv L r) b true (by have := c.hi; have := of_decide_eq_true q; exact decide_eq_true (by omega))
def cGeF (b : Int) (q : decide (b < lo) = true) : BI := bLe (bv L r) b false (by have := c.lo; have := of_decide_eq_true q; exact decide_eq_false (by omega))
def cSub (a : Int) (q : decide (d = a) = true) : BI := bSub (bv L r) a (L.v r) (by have := c.d; have := of_decide_eq_true q; omega)
def cAdd (a : Int) (q : decide (d = -a) = true) : BI := bAdd (bv L r) a (L.v r) (by have := c.d; have := of_decide_eq_true q; omega)
end
/-- not the pad -/
theorem not_pad (h : LtOk L k) {r : Nat} (hr : Nat.blt r k = true) : bv L r ≠ 61 := by
  have q := X.blt_true hr
  rcases cls_of h hr with ⟨_, c⟩ | ⟨_, _, c⟩ | ⟨_, _, c⟩ | ⟨_, c⟩ | ⟨_, c⟩
  · have := c.lo; omega
  · have := c.lo; omega
  · have := c.hi; omega
  · rw [bv_is h hr, c]; decide
  · rw [bv_is h hr, c]; decide
def aPad (r : Nat) (hr : Nat.blt r k = true) : BI := bEqI (bv L r) 61 false (by simpa using not_pad h hr)
def aGe64 (r : Nat) (hr : Nat.blt r k = true) : BI := bGe (L.v r) 64 false (decide_eq_false (by have := h.v1 r (X.blt_true hr); omega))
end
/-- bytes of a list: one more item -/
noncomputable def bmOk (I S : Addr) (i : Int) : Sem Fin := PySem.W.R.bindR (PySem.W.Fast.tw9550766606160685810 (.ref S) fun x => PySem.W.Fast.tw2398297429280069960 x i.toNat.toUInt8) fun _ => PySem.W.Fast.tw12377390311714414960 (.builtin PySem.W.SL.s3397376912297099816x18 ⟨[.type "bytes", .ref I, .ref S], []⟩)
noncomputable def bmRest (I S : Addr) (i : Int) : Sem Fin := if (decide (i < 0) || decide (i ≥ 256)) = true then PySem.W.R.bindR (PySem.rule "bytes.__new__.item-out-of-range") (fun _ => PySem.W.R.bindR (PySem.W.Fast.tw15343874381740019533 PySem.W.SL.s6070975301684473832x10 "bytes must be in range(0, 256)") fun (_ : Unit) => bmOk I S i) else bmOk I S i
noncomputable def rByte (I S : Addr) (i : Int) (h : 0 ≤ i ∧ i < 256) : RI := ⟨bmRest I S i, bmOk I S i, by
  unfold bmRest
  rw [decide_eq_false (by omega), decide_eq_false (by omega)]
  rfl⟩
theorem en_beq : entryFor table "bytes.__eq__" = some Builtin.«bytes.__eq__» := entryFor_of_tree (by kernel_rfl)
theorem tr_beq (x : List UInt8) (t u : Nat) : dF (.builtin "bytes.__eq__" ⟨[.bytes ⟨x⟩ t, .bytes ⟨x⟩ u], []⟩) = retB (Builtin.Bytes.holds "__eq__" (Builtin.Bytes.order x x)) := by rw [dF_builtin en_beq]; kernel_rfl
theorem order_self : ∀ x : List UInt8, Builtin.Bytes.order x x = .eq
  | [] => rfl
  | x :: l => by
    unfold Builtin.Bytes.order
    rw [if_neg (UInt8.lt_irrefl x), if_neg (UInt8.lt_irrefl x)]
    exact order_self l
/-- the bytes of whole numbers -/
def byt (l : List Int) : List UInt8 := l.map fun i => i.toNat.toUInt8
def bBytes (l : List Int) : BI := ⟨"bytes.__eq__", fun τ => [.bytes ⟨byt l⟩ (τ 0), .bytes ⟨byt l⟩ (τ 1)], fun _ => retB true, fun τ => go_eq (by rw [tr_beq, order_self]; rfl)⟩
section
variable {L : Lt} {k : Nat} (h : LtOk L k)
noncomputable def rCode (I S : Addr) (r : Nat) (hr : Nat.blt r k = true) : RI := rByte I S (Int.ofNat (lc L r)) (by have := X.blt_true hr; rw [h.lc this]; have := h.hi r this; constructor <;> simp; omega)
noncomputable def rQ0 (I S : Addr) (a b : Nat) (ha : okr k a = true) (hb : okr k b = true) : RI := rByte I S (q0 L a b) (by have := lv_ok h ha; have := lv_ok h hb; unfold q0; omega)
noncomputable def rQ1 (I S : Addr) (a b : Nat) (ha : okr k a = true) (hb : okr k b = true) : RI := rByte I S (q1 L a b) (by have := lv_ok h ha; have := lv_ok h hb; unfold q1; omega)
noncomputable def rQ2 (I S : Addr) (a b : Nat) (ha : okr k a = true) (hb : okr k b = true) : RI := rByte I S (q2 L a b) (by have := lv_ok h ha; have := lv_ok h hb; unfold q2; omega)
end
end Mine
end
section
open PySem PySem.W PySem.W.X PyProof.Rows
namespace Mine
/-- a rule for a code in any context, brought into ours -/
theorem mx_code {V : XV} {R : Result → Shared → Prop} {Γ : PySem.Ctx} {p : Pos} {s : Shared} {A : Around} (hb : Γ.Below A) (H : codeAny (model V.prog V.w) A Γ.code R s) : MX (cutV V R) Γ p .base (dF Γ.code) s := by
  have z := H Γ p rfl hb
  rw [wpCode_iff_wp] at z
  unfold MX
  rw [← dF_eq]
  exact z
/-- an around below which a context without handlers stands -/
theorem below_some (c : Code) (l : List (Code × Pos)) : (ctxC c l).Below ⟨none, frameCount l, none, none, unitsOf l⟩ := ⟨rfl, Nat.le_refl _, fun _ h => (nomatch h), fun _ h => (nomatch h), Nat.le_refl _⟩
end Mine
end
section
open PySem PySem.W PySem.W.X PyProof.Rows
set_option maxRecDepth 100000
namespace Mine
/-- what is told of the head -/
structure HdOk (L : Lt) (c : Int) : Prop where
  m : L.h % 5 = c
  v0 : 3 + L.h / 5 % 16 = L.v 0
/-- how far the values go -/
structure Bnd (L : Lt) : Prop where
  v0 : L.v 0 ≤ 25
  v1 : L.v 1 ≤ 51
  v2 : L.v 2 ≤ 51
  v3 : L.v 3 ≤ 63
/-- a place is ahead of a list's end -/
def aLt (r : Nat) (vs : List Value) (h : r < vs.length) : BI := ⟨"int.__lt__", fun τ => [.int (Int.ofNat r) (τ 0), .int (Int.ofNat vs.toArray.size) (τ 1)], fun _ => retB true, fun τ => go_eq (by
  rw [tr_ilt]
  have : decide ((Int.ofNat r) < Int.ofNat vs.toArray.size) = true := decide_eq_true (by rw [List.size_toArray]; exact Int.ofNat_lt.mpr h)
  rw [this])⟩
/-- script[:63] -/
noncomputable def slc (vs : List Value) : Array Value := ((PySem.W.Fast.tw10209042966406643723 0 (max 0 (min 63 (Int.ofNat vs.toArray.size))) 1).filterMap (vs.toArray[·]?)).toArray
theorem vs_items (vs : List Value) : (List.range vs.length).filterMap (vs.toArray[·]?) = vs := by
  have e : ∀ n, n ≤ vs.length → (List.range n).filterMap (vs.toArray[·]?) = vs.take n := by
    intro n
    induction n with
    | zero => intro _; rfl
    | succ n ih =>
      intro h
      rw [List.range_succ, List.filterMap_append, ih (Nat.le_of_succ_le h), List.take_add_one]
      have e : vs.toArray[n]? = vs[n]? := List.getElem?_toArray
      refine congrArg (vs.take n ++ ·) ?_
      cases q : vs[n]? with
      | none => rw [List.filterMap_cons_none (by rw [e, q])]; rfl
      | some b => rw [List.filterMap_cons_some (by rw [e, q])]; rfl
  rw [e _ (Nat.le_refl _), List.take_length]
theorem slc_eq (vs : List Value) (h : vs.length ≤ 63) : slc vs = vs.toArray := by
  unfold slc
  rw [← PySem.W.Fast.te10209042966406643723]
  unfold sliceRange
  have e1 : max 0 (min 63 (Int.ofNat vs.toArray.size)) = (vs.length : Int) := by
    rw [List.size_toArray]
    show max 0 (min 63 ((vs.length : Nat) : Int)) = _
    omega
  rw [e1]
  have e2 : (if (1 : Int) > 0 then (if (0 : Int) < (vs.length : Int) then ((vs.length : Int) - 0 + 1 - 1) / 1 else 0) else if (0 : Int) > (vs.length : Int) then (0 - (vs.length : Int) - 1 - 1) / (-1) else 0) = (vs.length : Int) := by
    rw [if_pos (by decide)]
    split <;> omega
  simp only [e2]
  have e3 : (List.range (vs.length : Int).toNat).map (fun (k : Nat) => ((0 : Int) + 1 * (k : Int)).toNat) = List.range vs.length := by
    rw [Int.toNat_natCast]
    conv => rhs; rw [← List.map_id (List.range vs.length)]
    apply List.map_congr_left
    intro k _
    show _ = k
    omega
  rw [e3, vs_items]
section
variable {prog : Program} {w : World} {A : Around} {R : Result → Shared → Prop}
/-- an iterator at its list's end: two new objects, the raise and its tuple -/
theorem next_end {it l : Addr} {i : Nat} {items : Array Value} {E : Value → Shared → Prop} {s : Shared} {Q : Option Value → Shared → Prop} (hh : A.handled = none) (hit : s.heap.IsListIter it l i) (hl : s.heap.IsList l items) (hx : items[i]? = none)
    (hQ : ∀ h', h'.objs.size = s.heap.objs.size + 2 → (∀ b o, b ≠ it → s.heap.get? b = some o → h'.get? b = some o) → Q none { s with heap := h' }) : wpAny (model prog w) A (pyNext (.ref it)) Q E s := by
  obtain ⟨o, ho, hc, hd⟩ := id hit
  obtain ⟨ol, hol, _, nl, hdl⟩ := hl
  unfold pyNext
  refine wpAny_bind (wpAny_attempt (wpAny_callSpecial?_slot (name := Str.ofString "__next__") hit.typeIs slot_listiter_next (wpAny_call_entry slot_listiter_next hit.typeIs entry_listiter_next ?_ (args_listiter_next _))))
  show wpAny _ _ (field (.ref it) 0 >>= _) _ _ s
  refine wpAny_bind (wpAny_field ho hd (x := .ref l) rfl ?_)
  show wpAny _ _ (if (Value.ref l == Value.none) = true then _ else _) _ _ s
  rw [if_neg (show ¬ ((Value.ref l == Value.none) = true) from Bool.false_ne_true)]
  show wpAny _ _ (field (.ref it) 1 >>= _) _ _ s
  refine wpAny_bind (wpAny_field ho hd (x := .int i 0) rfl ?_)
  show wpAny _ _ (seqItems? (.ref l) >>= _) _ _ s
  refine wpAny_bind (wpAny_seqItems hol hdl ?_)
  simp only [Int.toNat_natCast, hx]
  refine wpAny_bind (wpAny_rule (wpAny_bind (wpAny_setField ho hd (by simp) ?_)))
  show wpAny _ _ (newExc (.type "StopIteration") [] >>= _) _ _ _
  refine wpAny_bind ?_
  simp only [newExc, newTuple]
  refine wpAny_bind (wpAny_newObj_type ?_ (by size_fits))
  refine wpAny_bind (m := firstArgMember _ _) (wpAny_of_eq (a := Value.none) (by first | rfl | (simp only [firstArgMember]; rfl)) ?_)
  refine wpAny_newObj_type ?_ (by size_fits)
  simp only [raiseNew]
  refine wpAny_bind (wpAny_handled ?_)
  rw [show A.in1.handled = none from hh]
  refine wpAny_bind (wpAny_pure (wpAny_throw ?_))
  refine wpAny_bind (wpAny_isInstance (T := "StopIteration") (b := true) ⟨_, Heap.get?_push_size _ rfl, rfl⟩ isSubtype_stop ?_)
  refine wpAny_pure (hQ _ ?_ fun b ob hb e => ?_)
  · rw [Heap.size_push, Heap.size_push]
    exact congrArg (· + 1 + 1) (Heap.SameBut.update s.heap it _).1
  · exact Heap.get?_push_of_some _ (Heap.get?_push_of_some _ (((Heap.SameBut.update s.heap it _).2 b hb).trans e))
end
end Mine
end
section
open PySem PySem.W PySem.W.X PyProof.Rows
set_option maxRecDepth 100000
namespace Mine
section
variable {prog : Program} {w : World} {A : Around} {R : Result → Shared → Prop}
/-- sum's turns over a list of ints: two objects more, all but the iterator and the sum's own list as it stood -/
theorem sum_turns {I S l : Addr} {items : Array Value} {val : Nat → Int} (hh : A.handled = none) (hv : ∀ i, i < items.size → ∃ t, items[i]? = some (.int (val i) t)) (hl1 : l ≠ I) (hl2 : l ≠ S) (hIS : S ≠ I) :
    ∀ (k i : Nat) (s : Shared) (tA : Tok) (c : Nat) (st : Int), (st = 0 ∨ st = 2) → items.size - i = k → i ≤ items.size → s.heap.IsListIter I l i → s.heap.IsList l items →
      s.heap.get? S = some { cls := .type "list", dict := none, data := .seq #[.int (preSum val i) tA] c, slots := #[] } →
      (∀ h' tk t', s.toks ≤ tk → h'.objs.size = s.heap.objs.size + 2 → (∀ b o, b ≠ I → b ≠ S → s.heap.get? b = some o → h'.get? b = some o) → R (.ok (.ret (.int (preSum val items.size) t'))) ⟨h', s.gens, s.drawn, tk, s.os⟩) →
      codeAny (model prog w) A (.builtin "sum.loop" ⟨[.ref I, .ref S, rawInt st, rawInt 0], []⟩) R s := by
  intro k
  induction k with
  | zero =>
    intro i s tA c st _ hk hi hit hl hS hR
    have hin : i = items.size := by omega
    subst hin
    refine codeAny_builtin F.entry_sum_loop ?_
    rw [Around.under_plainId F.plain_sum_loop _]
    show wpAny _ A.in1 (seqItems? (.ref S) >>= _) _ _ s
    refine wpAny_bind (wpAny_seqItems hS rfl ?_)
    show wpAny _ A.in1 (tryCatch (pyNext (.ref I)) _ >>= _) _ _ s
    refine wpAny_bind (wpAny_tryCatch (next_end (A := A.in1) hh hit hl (by simp) fun h' h1 h2 => ?_))
    exact wpAny_pure (hR h' s.toks tA (Nat.le_refl _) h1 fun b o b1 _ e => h2 b o b1 e)
  | succ k ih =>
    intro i s tA c st hst hk hi hit hl hS hR
    have hlt : i < items.size := by omega
    obtain ⟨t, ht⟩ := hv i hlt
    refine codeAny_builtin F.entry_sum_loop ?_
    rw [Around.under_plainId F.plain_sum_loop _]
    show wpAny _ A.in1 (seqItems? (.ref S) >>= _) _ _ s
    refine wpAny_bind (wpAny_seqItems hS rfl ?_)
    show wpAny _ A.in1 (tryCatch (pyNext (.ref I)) _ >>= _) _ _ s
    refine wpAny_bind (wpAny_tryCatch (wpAny_pyNext_list_item hit hl ht fun h₁ hit₁ same => ?_))
    have hS₁ := (same.2 S hIS).trans hS
    have hl₁ : h₁.IsList l items := by
      obtain ⟨o, ho, r⟩ := hl
      exact ⟨o, (same.2 l hl1).trans ho, r⟩
    -- what a turn leaves
    have next : ∀ (h₂ : Heap) (tk : Tok) (st' : Int) (n : Nat) (c' : Nat), s.toks ≤ tk → (st' = 0 ∨ st' = 2) → Heap.SameBut S h₁ h₂ → h₂.get? S = some { cls := .type "list", dict := none, data := .seq #[.int (preSum val i + val i) n] c', slots := #[] } →
        codeAny (model prog w) A (.builtin "sum.loop" ⟨[.ref I, .ref S, rawInt st', rawInt 0], []⟩) R ⟨h₂, s.gens, s.drawn, tk, s.os⟩ := by
      intro h₂ tk st' n c' htk hst' sm hS₂
      refine ih (i + 1) _ n _ st' hst' (by omega) hlt ?_ ?_ hS₂ fun h' tk' t' e0 e1 e2 => ?_
      · obtain ⟨o, ho, r⟩ := hit₁
        exact ⟨o, (sm.2 I (Ne.symm hIS)).trans ho, r⟩
      · obtain ⟨o, ho, r⟩ := hl₁
        exact ⟨o, (sm.2 l hl2).trans ho, r⟩
      · refine hR h' tk' t' (Nat.le_trans htk e0) ?_ fun b o b1 b2 e => e2 b o b1 b2 ((sm.2 b b2).trans ((same.2 b b1).trans e))
        have e3 : h'.objs.size = h₂.objs.size + 2 := e1
        rw [e3, sm.1, same.1]
    have plain : ∀ (tk : Tok), s.toks ≤ tk → wpAny (model prog w) A.in1 (updateSeq S (fun _ => #[.int (preSum val i + val i) s.toks]) >>= fun _ => letGo [.int (preSum val i) tA, .int (val i) t] >>= fun _ => updateSeq S (fun _ => #[.int (preSum val i + val i) s.toks]) >>= fun _ => again (.builtin "sum.loop" ⟨[.ref I, .ref S, rawInt 2, rawInt 0], []⟩))
        (fun fin s' => match fin with | .done f => R (.ok f) s' | .again c' => c'.quiet = true ∧ codeAny (model prog w) A c' R s') (fun e s' => R (.error e) s') ⟨h₁, s.gens, s.drawn, tk, s.os⟩ := by
      intro tk htk
      refine wpAny_bind (wpAny_updateSeq hS₁ rfl ?_)
      have hS₂ := Heap.get?_update_self (Obj.mapSeq fun _ => #[Value.int (preSum val i + val i) s.toks]) hS₁ rfl
      refine wpAny_bind (wpAny_letGo ?_)
      refine wpAny_bind (wpAny_updateSeq hS₂ rfl (wpAny_pure ⟨plainId_quiet F.plain_sum_loop _, ?_⟩))
      exact next _ _ 2 s.toks _ htk (.inr rfl) (Heap.SameBut.trans (Heap.SameBut.update ..) (Heap.SameBut.update ..)) (Heap.get?_update_self _ hS₂ rfl)
    rcases hst with rfl | rfl
    · show wpAny _ A.in1 (if (_ : Bool) = true then (mkInt (preSum val i + val i) >>= _) else _) _ _ _
      split
      · refine wpAny_bind (wpAny_mkInt ?_)
        show wpAny _ A.in1 (updateSeq S (fun _ => #[.int (preSum val i + val i) s.toks]) >>= _) _ _ _
        exact wpAny_bind (wpAny_updateSeq hS₁ rfl (wpAny_pure ⟨plainId_quiet F.plain_sum_loop _, next _ _ 0 s.toks _ (Nat.le_succ _) (.inl rfl) (Heap.SameBut.update ..) (Heap.get?_update_self _ hS₁ rfl)⟩))
      · refine wpAny_bind (wpAny_rule ?_)
        refine wpAny_bind (wpAny_attempt (wpAny_holding (wpAny_add_int ?_)))
        exact plain _ (Nat.le_succ _)
    · show wpAny _ A.in1 ((holding [Value.int (val i) t] (binaryOp .Add (.int (preSum val i) tA) (.int (val i) t))).attempt >>= _) _ _ _
      refine wpAny_bind (wpAny_attempt (wpAny_holding (wpAny_add_int ?_)))
      exact plain _ (Nat.le_succ _)
/-- sum of a list of ints: four objects more, all that stood as it stood -/
theorem code_sum {l : Addr} {items : Array Value} {val : Nat → Int} {s : Shared} (hh : A.handled = none) (hv : ∀ i, i < items.size → ∃ t, items[i]? = some (.int (val i) t)) (hl : s.heap.IsList l items)
    (hR : ∀ h' tk t', s.toks ≤ tk → h'.objs.size = s.heap.objs.size + 4 → (∀ b o, s.heap.get? b = some o → h'.get? b = some o) → R (.ok (.ret (.int (preSum val items.size) t'))) ⟨h', s.gens, s.drawn, tk, s.os⟩) :
    codeAny (model prog w) A (.builtin "sum" ⟨[.ref l], []⟩) R s := by
  have lt : ∀ b o, s.heap.get? b = some o → b < s.heap.objs.size := fun b o e => Heap.lt_size e
  refine codeAny_builtin F.entry_sum ?_
  rw [Around.under_plainId F.plain_sum _]
  unfold Builtin.«sum»
  simp only [List.length_cons, List.length_nil]
  rw [if_neg (by decide)]
  refine wpAny_bind (wpAny_of_eq (show Builtin.Builtins.bindParams "sum" ["start"] 0 { } = pure [none] from rfl) ?_)
  refine wpAny_bind (wpAny_pyIter_list hl ?_)
  refine wpAny_bind (wpAny_mkInt ?_)
  refine wpAny_bind (wpAny_pure ?_)
  simp only [List.forIn_cons, List.forIn_nil]
  refine wpAny_bind (wpAny_bind (wpAny_bind (wpAny_isInstance (T := "int") (b := false) (typeIs_int _ _ _) PySem.sub_int_str ?_)))
  simp only [Bool.false_eq_true, if_false]
  refine wpAny_pure (wpAny_bind (wpAny_bind (wpAny_isInstance (T := "int") (b := false) (typeIs_int _ _ _) PySem.sub_int_bytes ?_)))
  simp only [Bool.false_eq_true, if_false]
  refine wpAny_pure (wpAny_bind (wpAny_bind (wpAny_isInstance (T := "int") (b := false) (typeIs_int _ _ _) PySem.sub_int_bytearray ?_)))
  simp only [Bool.false_eq_true, if_false]
  refine wpAny_pure (wpAny_pure ?_)
  refine wpAny_bind (wpAny_newObj_type ?_)
  have hlt : l < s.heap.objs.size := by obtain ⟨o, ho, _⟩ := hl; exact lt _ _ ho
  refine wpAny_pure ⟨plainId_quiet F.plain_sum_loop _, ?_⟩
  dsimp only
  rw [Heap.size_push]
  refine sum_turns (val := val) hh hv (l := l) (I := s.heap.objs.size) (S := s.heap.objs.size + 1) (Nat.ne_of_lt hlt) (Nat.ne_of_lt (Nat.lt_succ_of_lt hlt)) (Nat.succ_ne_self _) items.size 0 _ s.toks 0 0 (.inl rfl) rfl (Nat.zero_le _) ?_ ?_ ?_ fun h' tk t' e0 e1 e2 => hR h' tk t' (Nat.le_trans (Nat.le_succ _) e0) ?_ fun b o e => ?_
  · exact ⟨_, Heap.get?_push_of_some _ (Heap.get?_push_size _ rfl), rfl, rfl⟩
  · exact (hl.push _).push _
  · have z := Heap.get?_push_size (h := s.heap.push { cls := .type "list_iterator", data := .fields #[.ref l, .int 0 0] }) (o := { cls := .type "list", data := .seq #[.int 0 s.toks] }) (by rfl)
    rw [Heap.size_push] at z
    exact z
  · dsimp only at e1
    rw [Heap.size_push, Heap.size_push] at e1
    exact e1
  · have hb := lt b o e
    exact e2 b o (Nat.ne_of_lt hb) (Nat.ne_of_lt (Nat.lt_succ_of_lt hb)) (Heap.get?_push_of_some _ (Heap.get?_push_of_some _ e))
/-- the frame contract of sum holds -/
theorem sum_ok {V : XV} {q : FnC} {m a : Nat} {below : (Nat → Nat) → List (Code × Pos)} {L : Lt} {vs : List Value} {val : Nat → Int}
    (hc : ∀ τ, q.ctx τ = ctxC (.builtin "sum" ⟨[.ref a], []⟩) (below τ)) (hm : q.m = m ∧ q.m' = m + 4) (hf : ∀ z, ∃ τ, q.flow τ = .ret (.int L.h z)) (hp : ∀ τ, (ktOf (q.pre τ)).get a = some ⟨.type "list", none, .seq (slc vs) 0, #[]⟩)
    (h63 : vs.length ≤ 63) (hv : ∀ i, i < vs.length → ∃ t, vs[i]? = some (.int (val i) t)) (hL : preSum val vs.length = L.h) : q.Ok V := by
  refine ⟨by omega, fun R p τ i h₁ D Th => ?_⟩
  have hg := (D.own a _ (hp τ)).2
  rw [slc_eq vs h63] at hg
  have hI : h₁.IsList a vs.toArray := ⟨_, hg, rfl, _, rfl⟩
  have hs := D.size
  have e := hc τ
  rw [e]
  refine mx_code (A := ⟨none, frameCount (below τ), none, none, unitsOf (below τ)⟩) (below_some _ _) ?_
  refine code_sum (val := val) rfl (fun i hi => ?_) hI fun h' tk t' e0 e1 e2 => ?_
  · rw [List.size_toArray] at hi
    obtain ⟨t, ht⟩ := hv i hi
    exact ⟨t, by rw [List.getElem?_toArray]; exact ht⟩
  · obtain ⟨τ', eτ⟩ := hf t'
    have z := Th τ' (tk - V.t₀) h' (by rw [hm.2, ← hm.1, ← hs]; exact e1) e2
    rw [eτ] at z
    have e0 : V.t₀ + i ≤ tk := e0
    have e3 : V.t₀ + (tk - V.t₀) = tk := by omega
    rw [e3] at z
    rw [List.size_toArray, hL]
    exact z
end
end Mine
end
section
open PySem PySem.W PySem.W.X PyProof.Rows
set_option maxRecDepth 100000
namespace Mine
/-- a slice's list, made -/
noncomputable def slcT (vs : List Value) : Sem Fin := PySem.W.R.bindR (PySem.W.Fast.tw12314024073155659997 (.type "list") (.seq (slc vs) 0) none) fun v => .pure (.done (.ret v))
noncomputable def rSlc (vs : List Value) (h : vs.length ≤ 63) : RI := ⟨slcT vs, .alloc ⟨.type "list", none, .seq (slc vs) 0, #[]⟩ fun a => .pure (.done (.ret (.ref a))), by
  unfold slcT
  rw [← PySem.W.Fast.te12314024073155659997]
  have e : (slc vs).size = vs.length := by rw [slc_eq vs h, List.size_toArray]
  have e2 : sizeLine = 16777216 := by decide
  unfold newObj
  dsimp only
  rw [if_neg (by rw [e, e2]; omega)]
  rfl⟩
/-- a list's length -/
theorem len_ok {V : XV} (O : V.Ok) {q : FnC} {m a : Nat} {below : (Nat → Nat) → List (Code × Pos)} {vs : List Value}
    (hc : ∀ τ, q.ctx τ = ctxC (.builtin "len" ⟨[.ref a], []⟩) (below τ)) (hm : q.m = m ∧ q.m' = m) (hf : ∀ z, ∃ τ, q.flow τ = .ret (.int (Int.ofNat vs.toArray.size) z)) (hp : ∀ τ, lookK V .nil (q.ch τ) a = some { cls := .type "list", data := .seq vs.toArray })
    (h63 : vs.length ≤ 63) : q.Ok V := by
  refine ⟨by omega, fun R p τ i h₁ D Th => ?_⟩
  have D' : RepK V h₁ .nil q.m (q.ch τ) := D.less fun _ _ e => (nomatch e)
  have hg := D'.look O (hp τ)
  have hI : h₁.IsList a vs.toArray := ⟨_, hg, rfl, _, rfl⟩
  have e := hc τ
  rw [e]
  refine mx_code (A := ⟨none, frameCount (below τ), none, none, unitsOf (below τ)⟩) (below_some _ _) ?_
  refine codeAny_builtin entry_len ?_
  rw [Around.under_plainId plain_len _]
  obtain ⟨τ', eτ⟩ := hf (V.t₀ + i + 1)
  have z := Th τ' (i + 1 + 1) h₁ (by rw [hm.2, ← hm.1]; exact D.size) fun _ _ e => e
  rw [eτ] at z
  exact wpAny_mono (wpAny_len_body_list (Q := fun r s' => R (.ok (.ret r)) s') hI (by rw [List.size_toArray]; omega) z) (fun fin s' h' => by obtain ⟨r, rfl, hq⟩ := h'; exact hq) fun _ _ e => e
end Mine
end
section
open PySem PySem.W PySem.W.X PyProof.Rows
namespace Mine
abbrev S : Act := .row "special-get-raises"
abbrev O : Act := .row "set-order"
abbrev Q : Act := .eqL
abbrev H (t : Tk) : Act := .habit "fstring-hands-on-the-str" t
noncomputable def topL : OutT → Option (List Side × Side)
  | some (.fin f _ _ _ _, ob) => some (ob.map (·.1), .tree (.pure (.done f)))
  | _ => none
noncomputable def topR : OutT → Option (List Side × Side)
  | some (_, ob) => some (ob.map (·.2), .tree (.pure (.done (.ret (.bool true)))))
  | none => some ([], .word "")
/-- the claim's call -/
abbrev G0 : PySem.Ctx := ctxC (.call (.ref 135) ⟨[.ref 136], []⟩) [(callerC, default)]
/-- what a run stands on: the world, the heap, the script's items, the end, and the rest of the state -/
structure Pk where
  w : World
  h₀ : Heap
  vs : List Value
  R₀ : Result → Shared → Prop
  d : Drawn
  t₀ : Nat
  os : OsState
abbrev Pk.on (b : Pk) (vs : List Value) : Pk := ⟨b.w, b.h₀, vs, b.R₀, b.d, b.t₀, b.os⟩
noncomputable def Pk.V (b : Pk) (K : Params → KT) : XV := mkV K b.w b.h₀ b.vs b.R₀ b.d b.t₀ b.os
def FinT (V : XV) (q : Ctr) (N : Nat) (hs : List (Nat × Act)) (l : TSpec) : Prop :=
  ∀ R p i τ υ, segL (q.post (l.of ⟨cutV V R, i, τ, υ⟩)) (q.run V N hs R p i τ υ) = segR (.word "fin") (.pure (.done (q.flow (l.of ⟨cutV V R, i, τ, υ⟩)))) (q.postCh (l.of ⟨cutV V R, i, τ, υ⟩)) q.m' (q.post (l.of ⟨cutV V R, i, τ, υ⟩)) (q.run V N hs R p i τ υ)
def NextT (V : XV) (q q' : Ctr) (N : Nat) (hs : List (Nat × Act)) (l : TSpec) : Prop :=
  ∀ R p i τ υ, segL (q'.pre (l.of ⟨cutV V R, i, τ, υ⟩)) (q.run V N hs R p i τ υ) = segR (.ctx (q'.ctx (l.of ⟨cutV V R, i, τ, υ⟩))) (q'.tree (l.of ⟨cutV V R, i, τ, υ⟩)) (q'.preCh (l.of ⟨cutV V R, i, τ, υ⟩)) q'.m (q'.pre (l.of ⟨cutV V R, i, τ, υ⟩)) (q.run V N hs R p i τ υ)
def FnT (V : XV) (q : FnC) (N : Nat) (hs : List (Nat × Act)) (l : TSpec) : Prop :=
  ∀ h₁ R p i τ υ, fnL (q.sim V N hs h₁ R p i τ υ) = fnR (q.flow (l.of ⟨frameV V (q.ch τ) h₁ q.m R, i, τ, υ⟩)) q.m' (q.sim V N hs h₁ R p i τ υ)
def TopT (V : XV) (Γ : PySem.Ctx) (p : Pos) (N m : Nat) (hs : List (Nat × Act)) : Prop :=
  ∀ i τ υ, topL (simX ⟨V, i, τ, υ⟩ N hs Γ p .base (dF Γ.code) .nil m i 0 [] []) = topR (simX ⟨V, i, τ, υ⟩ N hs Γ p .base (dF Γ.code) .nil m i 0 [] [])
/-- the acts that ask something, each met -/
inductive Met (V : XV) : List Act → Prop where
  | nil : Met V []
  | ctr {q : Ctr} (h : q.Ok V) (l : TSpec) {r : List Act} (t : Met V r) : Met V (.ctr q l :: r)
  | fn {q : FnC} (h : q.Ok V) (l : TSpec) {r : List Act} (t : Met V r) : Met V (.fn q l :: r)
theorem Met.all {V : XV} {l : List Act} (h : Met V l) : ∀ a ∈ l, ActOk V a := by
  induction h with
  | nil => exact fun _ h => nomatch h
  | ctr h l _ ih =>
    intro a ha
    cases ha with
    | head => exact h
    | tail _ ha => exact ih a ha
  | fn h l _ ih =>
    intro a ha
    cases ha with
    | head => exact h
    | tail _ ha => exact ih a ha
theorem met {V : XV} {hs : List (Nat × Act)} {l : List Act} (h : Met V l) (e : need hs = l) : ∀ a ∈ hs, ActOk V a.2 := need_ok (by rw [e]; exact h.all)
theorem okF {V : XV} (O : V.Ok) {q : Ctr} {N : Nat} {hs : List (Nat × Act)} {l : TSpec} (H : FinT V q N hs l) (W : ∀ a ∈ hs, ActOk V a.2) : q.Ok V := ctr_fin O l W H
theorem okN {V : XV} (O : V.Ok) {q q' : Ctr} {N : Nat} {hs : List (Nat × Act)} {l : TSpec} (H : NextT V q q' N hs l) (K : q'.Ok V) (hq : q'.flow = q.flow ∧ q'.post = q.post ∧ q'.postCh = q.postCh ∧ q'.m' = q.m') (W : ∀ a ∈ hs, ActOk V a.2) : q.Ok V := ctr_next O l W K hq H
theorem okFn {V : XV} (O : V.Ok) {q : FnC} {N : Nat} {hs : List (Nat × Act)} {l : TSpec} (H : FnT V q N hs l) (W : hs.all (fun a => a.2.bare) = true) (up : Nat.ble q.m q.m' = true) : q.Ok V := fn_fin O l W up H
/-- the whole run -/
theorem top_go {V : XV} (O : V.Ok) {Γ : PySem.Ctx} {p : Pos} {N m : Nat} {hs : List (Nat × Act)} (H : TopT V Γ p N m hs) (W : ∀ a ∈ hs, ActOk V a.2) (i : Nat)
    (hR : ∀ T m' i' ch h, RepK V h T m' ch → V.R₀ (.ok (.ret (.bool true))) ⟨h, ⟨[]⟩, V.d, V.t₀ + i', V.os⟩) : GoX V Γ p .base (dF Γ.code) .nil m i [] := by
  refine simX_sound (P := fun r => match r with
    | .fin f _ _ _ _ => f = .ret (.bool true)
    | .at .. => False) O (fun f T m' i' ch e h D => by cases e; exact hR T m' i' ch h D) (fun _ _ _ _ _ _ _ _ h => h.elim) N (fun _ => un0) (i₀ := i) (τ := fun _ => 0) (ib := i) (il := 0) (ob := fun _ => []) W fun υ _ => ?_
  have e := H i (fun _ => 0) υ
  generalize simX ⟨V, i, fun _ => 0, υ⟩ N hs Γ p .base (dF Γ.code) .nil m i 0 [] [] = o at e ⊢
  cases o with
  | none => cases e
  | some x =>
    obtain ⟨r, ob⟩ := x
    cases r with
    | «at» => cases e
    | fin f T m' i' ch =>
      simp only [topL, topR, Option.some.injEq, Prod.mk.injEq, Side.tree.injEq] at e
      obtain ⟨e1, e2⟩ := e
      injection e2 with e2
      injection e2 with e2
      exact ⟨_, _, rfl, e2, map_all e1⟩
end Mine
end
section
open PySem PySem.W PySem.W.X PyProof.Rows
namespace Mine
/-- a further value's step, as the script gives it -/
def sv (ns : List Int) (r : Nat) : Int := if r < ns.length then Int.fmod (ns.getD r 0) 15 else 0
/-- the values -/
def vv (h : Int) (ns : List Int) : Nat → Int
  | 0 => 3 + h / 5 % 16
  | r + 1 => vv h ns r + 1 + sv ns (r + 1)
/-- the letters that a script makes -/
def LL (h : Int) (ns : List Int) : Lt := ⟨vv h ns, fun r => b64.getD (vv h ns r).toNat 0, h⟩
theorem sv_b (ns : List Int) (r : Nat) : 0 ≤ sv ns r ∧ sv ns r ≤ 14 := by
  unfold sv
  split
  · rw [Int.fmod_eq_emod_of_nonneg _ (by decide)]
    omega
  · omega
theorem vv_b (h : Int) (ns : List Int) : ∀ r : Nat, 3 ≤ vv h ns r ∧ vv h ns r ≤ 18 + 15 * r
  | 0 => by unfold vv; omega
  | r + 1 => by
    have a := vv_b h ns r
    have c := sv_b ns (r + 1)
    unfold vv
    omega
theorem vv_lt (h : Int) (ns : List Int) (r : Nat) : ∀ d : Nat, vv h ns r < vv h ns (r + (d + 1))
  | 0 => by
    have c := sv_b ns (r + 1)
    show vv h ns r < vv h ns r + 1 + sv ns (r + 1)
    omega
  | d + 1 => by
    have a := vv_lt h ns r d
    have c := sv_b ns (r + (d + 1) + 1)
    show vv h ns r < vv h ns (r + (d + 1)) + 1 + sv ns (r + (d + 1) + 1)
    omega
theorem b64_at : ∀ i : Fin 64, b64[i.1]? = some (b64.getD i.1 0) := by decide +kernel
theorem b64_inj : ∀ i j : Fin 64, b64.getD i.1 0 = b64.getD j.1 0 → i = j := by decide +kernel
theorem b64_in : ∀ i : Fin 64, 43 ≤ b64.getD i.1 0 ∧ b64.getD i.1 0 ≤ 122 ∧ b64.getD i.1 0 ≠ 92 := by decide +kernel
theorem ll_ok (h : Int) (ns : List Int) (k : Nat) (hk : k ≤ 4) : LtOk (LL h ns) k := by
  have rng : ∀ r, r < k → 0 ≤ vv h ns r ∧ vv h ns r < 64 := fun r hr => by have := vv_b h ns r; omega
  have nat : ∀ r, r < k → (vv h ns r).toNat < 64 := fun r hr => by have := rng r hr; omega
  refine ⟨fun r hr => (rng r hr).1, fun r hr => (rng r hr).2, fun r hr => b64_at ⟨_, nat r hr⟩, fun r s hr hs e => ?_, fun r hr => (b64_in ⟨_, nat r hr⟩).1, fun r hr => (b64_in ⟨_, nat r hr⟩).2.1, fun r hr => (b64_in ⟨_, nat r hr⟩).2.2, by omega⟩
  have e1 := congrArg Fin.val (b64_inj ⟨_, nat r hr⟩ ⟨_, nat s hs⟩ e)
  have e1 : (vv h ns r).toNat = (vv h ns s).toNat := e1
  have a := rng r hr
  have c := rng s hs
  rcases Nat.lt_trichotomy r s with q | q | q
  · have z := vv_lt h ns r (s - r - 1)
    rw [show r + (s - r - 1 + 1) = s by omega] at z
    omega
  · exact q
  · have z := vv_lt h ns s (r - s - 1)
    rw [show s + (r - s - 1 + 1) = r by omega] at z
    omega
theorem ll_bnd (h : Int) (ns : List Int) : Bnd (LL h ns) := by
  have a := vv_b h ns 0
  have b := vv_b h ns 1
  have c := vv_b h ns 2
  have d := vv_b h ns 3
  exact ⟨show vv h ns 0 ≤ 25 by omega, show vv h ns 1 ≤ 51 by omega, show vv h ns 2 ≤ 51 by omega, show vv h ns 3 ≤ 63 by omega⟩
theorem ll_step {h : Int} {ns : List Int} (r : Nat) {s : Int} (e : sv ns (r + 1) = s) : (LL h ns).v r + 1 + s = (LL h ns).v (r + 1) := by subst e; rfl
theorem ints_at {vs : List Value} {ns : List Int} (hi : IntsAre vs ns) : ∀ i, i < vs.length → ∃ t, vs[i]? = some (.int (ns.getD i 0) t) := by
  induction hi with
  | nil => exact fun _ h => absurd h (Nat.not_lt_zero _)
  | cons n t _ ih =>
    intro i hl
    cases i with
    | zero => exact ⟨t, rfl⟩
    | succ i =>
      obtain ⟨t', e⟩ := ih i (Nat.lt_of_succ_lt_succ hl)
      exact ⟨t', e⟩
/-- a code object names its table -/
def codeTab (t : KT) (p : Nat × Nat) : Bool := match t.get p.2 with
  | some ⟨.none, none, .fields _, ⟨[]⟩⟩ => (match t.get p.1 with
    | some ⟨.type n, _, .fields vs, _⟩ => decide (n = "code") && (match (vs[11]? : Option Value) with | some (.ref q) => Nat.beq q p.2 | _ => false)
    | _ => false)
  | _ => true
theorem tabs_all {h : Heap} {t : KT} (H : KT.Holds h 1 0 t) : ∀ l : List (Nat × Nat), l.all (codeTab t) = true → TabsOk h (tabsOf t l)
  | [], _ => trivial
  | (c, q) :: l, e => by
    rw [List.all_cons, Bool.and_eq_true] at e
    obtain ⟨e1, e2⟩ := e
    have ih := tabs_all H l e2
    unfold tabsOf
    unfold codeTab at e1
    dsimp only at e1
    split
    · rename_i vs hq
      refine ⟨?_, ih⟩
      rw [hq] at e1
      dsimp only at e1
      split at e1
      · rename_i n d vs' sl hc
        rw [Bool.and_eq_true] at e1
        obtain ⟨e3, e4⟩ := e1
        have e3 := of_decide_eq_true e3
        subst e3
        split at e4
        · rename_i q' hv
          have e4 := Nat.eq_of_beq_eq_true e4
          subst e4
          exact table_kt H hc rfl hv hq
        · cases e4
      · cases e1
    · exact ih
end Mine
end
section
open PySem PySem.W PySem.W.X PySem.W.ZRun PyProof.Rows
namespace Mine
/-- what the top hands on: from any heap that holds its objects the call ends in True -/
def WalkT (K : Params → KT) : Prop := ∀ (w : World) (s₁ : Shared) (vs : List Value) (ns : List Int), KT.Holds s₁.heap 1 0 (K w.params) → s₁.heap.objs.size = 137 →
  s₁.heap.get? 136 = some { cls := .type "list", data := .seq vs.toArray } → IntsAre vs ns → vs.length = ns.length → ns.length ≤ 63 → s₁.gens = #[] →
  ∀ (Q : Value → Pos → Shared → Prop) (E : Value → Pos → Shared → Prop), (∀ h t, OldK s₁.heap h → Q (.bool true) default ⟨h, ⟨[]⟩, s₁.drawn, t, s₁.os⟩) →
    Sem.wp (model PySem.Challenge.rw_op0012_01.row.prog w) Γ₀ (PySem.call (.ref 135) [.ref 136]) Q E default s₁
set_option maxRecDepth 100000 in
set_option maxHeartbeats 0 in
noncomputable def z0 : (K : Params → KT) ×' (Kept (WalkT K) → PySem.Challenge.rw_op0012_01.Holds) := ⟨_, fun kept => by
  w_on; o_law
  z_head; (case hw => w_witness2)
  intro walk
  k_fill
  intro w s₀ s₁ mg mb G y fa o pm cd doc dV kV ho hd hcd hD hmg hg args vals as L hpre hlay hrd hwl hlo
  z_open y L KX ZH ZN ZT
  refine Ground.open G ?_
  intro T B D TE TW
  wrow_args hpre hlay hrd hwl hlo
  obtain ⟨hat, hsz⟩ := script_at L
  rw [ZN] at hat hsz
  subst hat
  x_fa T KX hmg
  all_lens
  have hi := ‹IntsAre _ _›
  have hl := ‹Heap.IsList s₁.heap 136 _›
  have hol := script_obj L hl
  have h63 := ‹¬ _ < _›
  have hlen := (‹_ ∧ _ ≤ 2 ^ 20›).1
  refine walk w s₁ _ _ ZH hsz hol hi hlen (by omega) hg _ _ fun h t hk => ?_
  refine ⟨.inl ⟨_, _, [], rfl, fun _ => rfl, ReadsW.bool true, ?_, fun _ => ⟨List.nodup_nil, fun _ hm => (nomatch hm)⟩⟩, hk, rfl, AllBare.empty⟩
  first | rfl | wrow_post⟩
end Mine
end
section
open PySem PySem.W PySem.W.X PyProof.Rows
set_option maxRecDepth 100000
namespace Mine
theorem v_ok {b : Pk} (ZH : KT.Holds b.h₀ 1 0 (z0.1 b.w.params)) (hsz : b.h₀.objs.size = 137) (hol : b.h₀.get? 136 = some { cls := .type "list", data := .seq b.vs.toArray }) : (b.V z0.1).Ok := by
  have tb : pairs0.all (codeTab (z0.1 b.w.params)) = true := by kernel_rfl
  exact ⟨hsz, KT.Holds.put 40 ZH (by rw [Nat.one_mul, Nat.add_zero]; exact hol), tabs_ok (tabs_all ZH pairs0 tb)⟩
end Mine
end
section
open PySem PySem.W PySem.W.X PyProof.Rows
set_option maxRecDepth 100000
namespace Mine
noncomputable def rae0 (K : Params → KT) (w : World) (L : Lt) (τ : Nat → Nat) : Env := ⟨(fdK K w 135).scope, 137, 3, [(⟨⟨[98, 97, 115, 101]⟩⟩, 139), (⟨⟨[118, 97, 108, 117, 101, 115]⟩⟩, 138)], ⟨⟨[108, 97, 119, 46, 60, 108, 111, 99, 97, 108, 115, 62, 46]⟩⟩, some 135, (.ref 134), some 137, 0⟩
noncomputable def rax1 (K : Params → KT) (w : World) (L : Lt) (τ : Nat → Nat) : PySem.Ctx := ctxC (.builtin "sum" ⟨[.ref 141], []⟩) [((funcC (bodyK K w 135) (rae0 K w L τ)), ⟨172, 11, 172, 27⟩), (callerC, ⟨0, 0, 0, 0⟩)]
noncomputable def rac2 (K : Params → KT) (w : World) (L : Lt) (τ : Nat → Nat) : Ch := []
noncomputable def ra_sum (K : Params → KT) (w : World) (L : Lt) (vs : List Value) : FnC := ⟨rax1 K w L, 142, fun τ => .ret (.int L.h (τ 368)), 146, rac2 K w L, fun _ => [(141, ⟨.type "list", none, .seq (slc vs) 0, #[]⟩)]⟩
theorem ra_sum_ok (b : Pk) (L : Lt) (val : Nat → Int) (h63 : b.vs.length ≤ 63) (hv : ∀ i, i < b.vs.length → ∃ t, b.vs[i]? = some (.int (val i) t)) (hh : preSum val b.vs.length = L.h) : (ra_sum z0.1 b.w L b.vs).Ok (b.V z0.1) :=
  sum_ok (m := 142) (a := 141) (fun _ => rfl) ⟨rfl, rfl⟩ (fun z => ⟨fun _ => z, rfl⟩) (fun _ => by kernel_rfl) h63 hv hh
noncomputable def rak3 (K : Params → KT) (w : World) (L : Lt) (τ : Nat → Nat) : Code := loopC (stmtAt (bodyK K w 135) [3]) (.ref 157) (rae0 K w L τ)
noncomputable def rax4 (K : Params → KT) (w : World) (L : Lt) (τ : Nat → Nat) : PySem.Ctx := ctxC (rak3 K w L τ) [((funcC (bodyK K w 135) (rae0 K w L τ)), ⟨175, 13, 175, 24⟩), (callerC, ⟨0, 0, 0, 0⟩)]
noncomputable def rao5 (K : Params → KT) (w : World) (L : Lt) (τ : Nat → Nat) : Obj := ⟨(.type "frame"), none, (.dict ⟨[entS w ⟨⟨[115, 99, 114, 105, 112, 116]⟩⟩ (τ 361) (.ref 136), entS w ⟨⟨[104, 101, 97, 100]⟩⟩ (τ 369) (.int L.h (τ 368)), entS w ⟨⟨[107]⟩⟩ (τ 382) (.int 2 (τ 370)), entS w ⟨⟨[110]⟩⟩ (τ 383) (.int 4 (τ 371))]⟩ 4), ⟨[]⟩⟩
noncomputable def rao6 (K : Params → KT) (w : World) (L : Lt) (τ : Nat → Nat) : Obj := ⟨(.type "cell"), none, (.cell (some (.ref 155))), ⟨[]⟩⟩
noncomputable def rao7 (K : Params → KT) (w : World) (L : Lt) (τ : Nat → Nat) : Obj := ⟨(.type "cell"), none, (.cell none), ⟨[]⟩⟩
noncomputable def rao8 (K : Params → KT) (w : World) (L : Lt) (τ : Nat → Nat) : Obj := ⟨(.type "list"), none, (.seq ⟨[(.int (L.v 0) (τ 389))]⟩ 0), ⟨[]⟩⟩
noncomputable def rao9 (K : Params → KT) (w : World) (L : Lt) (τ : Nat → Nat) : Obj := ⟨(.type "range_iterator"), none, (.fields ⟨[(.int 1 0), (.int 1 0), (.int 1 0)]⟩), ⟨[]⟩⟩
noncomputable def ral10 (K : Params → KT) (w : World) (L : Lt) (τ : Nat → Nat) : List (Addr × Obj) := [(137, rao5 K w L τ), (138, rao6 K w L τ), (139, rao7 K w L τ), (155, rao8 K w L τ), (157, rao9 K w L τ)]
noncomputable def rax11 (K : Params → KT) (w : World) (L : Lt) (τ : Nat → Nat) : PySem.Ctx := ctxC (.builtin "len" ⟨[.ref 136], []⟩) [((rak3 K w L τ), ⟨176, 62, 176, 73⟩), ((funcC (bodyK K w 135) (rae0 K w L τ)), ⟨175, 13, 175, 24⟩), (callerC, ⟨0, 0, 0, 0⟩)]
noncomputable def ra_len11 (K : Params → KT) (w : World) (L : Lt) (vs : List Value) : FnC := ⟨rax11 K w L, 158, fun τ => .ret (.int (Int.ofNat vs.toArray.size) (τ 399)), 158, rac2 K w L, fun _ => []⟩
theorem ra_len11_ok (b : Pk) (O : (b.V z0.1).Ok) (L : Lt) (h63 : b.vs.length ≤ 63) : (ra_len11 z0.1 b.w L b.vs).Ok (b.V z0.1) :=
  len_ok (m := 158) (a := 136) O (fun _ => rfl) ⟨rfl, rfl⟩ (fun z => ⟨fun _ => z, rfl⟩) (fun _ => by kernel_rfl) h63
noncomputable def rao13 (K : Params → KT) (w : World) (L : Lt) (τ : Nat → Nat) : Obj := ⟨(.type "frame"), none, (.dict ⟨[entS w ⟨⟨[115, 99, 114, 105, 112, 116]⟩⟩ (τ 361) (.ref 136), entS w ⟨⟨[104, 101, 97, 100]⟩⟩ (τ 369) (.int L.h (τ 368)), entS w ⟨⟨[107]⟩⟩ (τ 382) (.int 2 (τ 370)), entS w ⟨⟨[110]⟩⟩ (τ 383) (.int 4 (τ 371)), entS w ⟨⟨[114]⟩⟩ (τ 393) (.int 1 (τ 392))]⟩ 5), ⟨[]⟩⟩
noncomputable def rao14 (K : Params → KT) (w : World) (L : Lt) (τ : Nat → Nat) : Obj := ⟨(.type "list"), none, (.seq ⟨[(.int (L.v 0) (τ 389)), (.int (L.v 1) (τ 402))]⟩ 1), ⟨[]⟩⟩
noncomputable def ral15 (K : Params → KT) (w : World) (L : Lt) (τ : Nat → Nat) : List (Addr × Obj) := [(137, rao13 K w L τ), (138, rao6 K w L τ), (139, rao7 K w L τ), (155, rao14 K w L τ)]
noncomputable def ra_vals (K : Params → KT) (w : World) (L : Lt) : Ctr := ⟨rax4 K w L, fun τ => dF (rax4 K w L τ).code, ral10 K w L, rac2 K w L, 158, fun τ => .next, ral15 K w L, rac2 K w L, 160⟩
noncomputable def ra_vals_s0_h (K : Params → KT) (w : World) (L : Lt) (xs : Nat → Int) (ts : Nat → Nat) (rest : List Value) (h1 : L.v 0 + 1 + 0 = L.v 1) : List (Nat × Act) := [(37, S), (29, .bi (bAdd (L.v 0 + 1) 0 (L.v 1) h1))]
theorem ra_vals_s0_t (b : Pk) (L : Lt) (xs : Nat → Int) (ts : Nat → Nat) (rest : List Value) (h1 : L.v 0 + 1 + 0 = L.v 1) : FinT ((b.on []).V z0.1) (ra_vals z0.1 b.w L) 113 (ra_vals_s0_h z0.1 b.w L xs ts rest h1) ⟨none, [(402, .off 9), (393, .off 1), (392, .off 0)]⟩ := by intro R p i τ υ; kernel_rfl
theorem ra_vals_s0_ok (b : Pk) (L : Lt) (xs : Nat → Int) (ts : Nat → Nat) (rest : List Value) (h1 : L.v 0 + 1 + 0 = L.v 1) (O : ((b.on []).V z0.1).Ok) (h63 : List.length (α := Value) [] ≤ 63) : (ra_vals z0.1 b.w L).Ok ((b.on []).V z0.1) := okF O (ra_vals_s0_t b L xs ts rest h1) (met .nil (by kernel_rfl))
noncomputable def ra_vals_s1_h (K : Params → KT) (w : World) (L : Lt) (xs : Nat → Int) (ts : Nat → Nat) (rest : List Value) (h1 : L.v 0 + 1 + 0 = L.v 1) : List (Nat × Act) := [(37, S), (29, .bi (bAdd (L.v 0 + 1) 0 (L.v 1) h1))]
theorem ra_vals_s1_t (b : Pk) (L : Lt) (xs : Nat → Int) (ts : Nat → Nat) (rest : List Value) (h1 : L.v 0 + 1 + 0 = L.v 1) : FinT ((b.on [.int (xs 0) (ts 0)]).V z0.1) (ra_vals z0.1 b.w L) 113 (ra_vals_s1_h z0.1 b.w L xs ts rest h1) ⟨none, [(402, .off 9), (393, .off 1), (392, .off 0)]⟩ := by intro R p i τ υ; kernel_rfl
theorem ra_vals_s1_ok (b : Pk) (L : Lt) (xs : Nat → Int) (ts : Nat → Nat) (rest : List Value) (h1 : L.v 0 + 1 + 0 = L.v 1) (O : ((b.on [.int (xs 0) (ts 0)]).V z0.1).Ok) (h63 : List.length (α := Value) [.int (xs 0) (ts 0)] ≤ 63) : (ra_vals z0.1 b.w L).Ok ((b.on [.int (xs 0) (ts 0)]).V z0.1) := okF O (ra_vals_s1_t b L xs ts rest h1) (met .nil (by kernel_rfl))
noncomputable def ra_len16 (K : Params → KT) (w : World) (L : Lt) (vs : List Value) : FnC := ⟨rax11 K w L, 158, fun τ => .ret (.int (Int.ofNat vs.toArray.size) (τ 399)), 158, rac2 K w L, fun _ => []⟩
theorem ra_len16_ok (b : Pk) (O : (b.V z0.1).Ok) (L : Lt) (h63 : b.vs.length ≤ 63) : (ra_len16 z0.1 b.w L b.vs).Ok (b.V z0.1) :=
  len_ok (m := 158) (a := 136) O (fun _ => rfl) ⟨rfl, rfl⟩ (fun z => ⟨fun _ => z, rfl⟩) (fun _ => by kernel_rfl) h63
noncomputable def ra_vals_s2_h (K : Params → KT) (w : World) (L : Lt) (xs : Nat → Int) (ts : Nat → Nat) (rest : List Value) (h1 : L.v 0 + 1 + (Int.fmod (xs 1) 15) = L.v 1) : List (Nat × Act) := [(59, .fn (ra_len16 K w L (.int (xs 0) (ts 0) :: .int (xs 1) (ts 1) :: rest)) ⟨none, [(392, .cnt)]⟩), (56, S), (53, .bi (aLt 1 (.int (xs 0) (ts 0) :: .int (xs 1) (ts 1) :: rest) (by simp only [List.length_cons]; omega))), (29, .bi (bAdd (L.v 0 + 1) (Int.fmod (xs 1) 15) (L.v 1) h1))]
theorem ra_vals_s2_t (b : Pk) (L : Lt) (xs : Nat → Int) (ts : Nat → Nat) (rest : List Value) (h1 : L.v 0 + 1 + (Int.fmod (xs 1) 15) = L.v 1) : FinT ((b.on (.int (xs 0) (ts 0) :: .int (xs 1) (ts 1) :: rest)).V z0.1) (ra_vals z0.1 b.w L) 123 (ra_vals_s2_h z0.1 b.w L xs ts rest h1) ⟨none, [(400, .un 59), (398, .tau 59), (392, .cnt)]⟩ := by intro R p i τ υ; kernel_rfl
theorem ra_vals_s2_ok (b : Pk) (L : Lt) (xs : Nat → Int) (ts : Nat → Nat) (rest : List Value) (h1 : L.v 0 + 1 + (Int.fmod (xs 1) 15) = L.v 1) (O : ((b.on (.int (xs 0) (ts 0) :: .int (xs 1) (ts 1) :: rest)).V z0.1).Ok) (h63 : List.length (α := Value) (.int (xs 0) (ts 0) :: .int (xs 1) (ts 1) :: rest) ≤ 63) : (ra_vals z0.1 b.w L).Ok ((b.on (.int (xs 0) (ts 0) :: .int (xs 1) (ts 1) :: rest)).V z0.1) := okF O (ra_vals_s2_t b L xs ts rest h1) (met (.fn (ra_len16_ok _ O L h63) ⟨none, [(392, .cnt)]⟩ .nil) (by kernel_rfl))
noncomputable def rae17 (K : Params → KT) (w : World) (L : Lt) (τ : Nat → Nat) : Env := ⟨(fdK K w 130).scope, 166, 3, [(⟨⟨[119, 111, 114, 100]⟩⟩, 170), (⟨⟨[109]⟩⟩, 169), (⟨⟨[115, 105, 122, 101]⟩⟩, 168), (⟨⟨[107]⟩⟩, 167)], ⟨⟨[95, 108, 97, 119, 95, 108, 121, 110, 100, 111, 110, 46, 60, 108, 111, 99, 97, 108, 115, 62, 46]⟩⟩, some 130, (.ref 129), some 166, 0⟩
noncomputable def rak18 (K : Params → KT) (w : World) (L : Lt) (τ : Nat → Nat) : Code := loopC (stmtAt (bodyK K w 130) [1, 0, 0]) (.ref 175) (rae17 K w L τ)
noncomputable def rak19 (K : Params → KT) (w : World) (L : Lt) (τ : Nat → Nat) : Code := loopC (stmtAt (bodyK K w 130) [1]) (.ref 173) (rae17 K w L τ)
noncomputable def rax20 (K : Params → KT) (w : World) (L : Lt) (τ : Nat → Nat) : PySem.Ctx := ctxC (rak18 K w L τ) [((rak19 K w L τ), ⟨166, 21, 166, 37⟩), ((funcC (bodyK K w 130) (rae17 K w L τ)), ⟨164, 16, 164, 31⟩), ((funcC (bodyK K w 135) (rae0 K w L τ)), ⟨180, 16, 180, 33⟩), (callerC, ⟨0, 0, 0, 0⟩)]
noncomputable def rao21 (K : Params → KT) (w : World) (L : Lt) (τ : Nat → Nat) : Obj := ⟨(.type "frame"), none, (.dict ⟨[entS w ⟨⟨[115, 99, 114, 105, 112, 116]⟩⟩ (τ 361) (.ref 136), entS w ⟨⟨[104, 101, 97, 100]⟩⟩ (τ 369) (.int L.h (τ 368)), entS w ⟨⟨[107]⟩⟩ (τ 382) (.int 2 (τ 370)), entS w ⟨⟨[110]⟩⟩ (τ 383) (.int 4 (τ 371)), entS w ⟨⟨[114]⟩⟩ (τ 393) (.int 1 (τ 392)), entS w ⟨⟨[108, 101, 116, 116, 101, 114, 115]⟩⟩ (τ 410) (.str (rel L [0, 1]) (τ 409)), entS w ⟨⟨[114, 111, 119]⟩⟩ (τ 411) (.ref 165)]⟩ 7), ⟨[]⟩⟩
noncomputable def rao22 (K : Params → KT) (w : World) (L : Lt) (τ : Nat → Nat) : Obj := ⟨(.type "cell"), none, (.cell (some (.str ⟨⟨[65, 66, 67, 68, 69, 70, 71, 72, 73, 74, 75, 76, 77, 78, 79, 80, 81, 82, 83, 84, 85, 86, 87, 88, 89, 90, 97, 98, 99, 100, 101, 102, 103, 104, 105, 106, 107, 108, 109, 110, 111, 112, 113, 114, 115, 116, 117, 118, 119, 120, 121, 122, 48, 49, 50, 51, 52, 53, 54, 55, 56, 57, 43, 47]⟩⟩ (τ 403)))), ⟨[]⟩⟩
noncomputable def rao23 (K : Params → KT) (w : World) (L : Lt) (τ : Nat → Nat) : Obj := ⟨(.type "list"), none, (.seq ⟨[]⟩ 0), ⟨[]⟩⟩
noncomputable def rao24 (K : Params → KT) (w : World) (L : Lt) (τ : Nat → Nat) : Obj := ⟨(.type "frame"), none, (.dict ⟨[entS w ⟨⟨[110]⟩⟩ (τ 412) (.int 4 (τ 371)), entS w ⟨⟨[119, 111, 114, 100, 115]⟩⟩ (τ 413) (.ref 171)]⟩ 2), ⟨[]⟩⟩
noncomputable def rao25 (K : Params → KT) (w : World) (L : Lt) (τ : Nat → Nat) : Obj := ⟨(.type "cell"), none, (.cell (some (.int 2 (τ 370)))), ⟨[]⟩⟩
noncomputable def rao26 (K : Params → KT) (w : World) (L : Lt) (τ : Nat → Nat) : Obj := ⟨(.type "cell"), none, (.cell (some (.int 1 (τ 418)))), ⟨[]⟩⟩
noncomputable def rao27 (K : Params → KT) (w : World) (L : Lt) (τ : Nat → Nat) : Obj := ⟨(.type "range_iterator"), none, (.fields ⟨[(.int 2 0), (.int 3 0), (.int 1 0)]⟩), ⟨[]⟩⟩
noncomputable def rao28 (K : Params → KT) (w : World) (L : Lt) (τ : Nat → Nat) : Obj := ⟨(.type "range_iterator"), none, (.fields ⟨[(.int 0 0), (.int 2 0), (.int 1 0)]⟩), ⟨[]⟩⟩
noncomputable def ral29 (K : Params → KT) (w : World) (L : Lt) (τ : Nat → Nat) : List (Addr × Obj) := [(137, rao21 K w L τ), (138, rao6 K w L τ), (139, rao22 K w L τ), (155, rao14 K w L τ), (165, rao23 K w L τ), (166, rao24 K w L τ), (167, rao25 K w L τ), (168, rao26 K w L τ), (169, rao7 K w L τ), (170, rao7 K w L τ), (171, rao23 K w L τ), (173, rao27 K w L τ), (175, rao28 K w L τ)]
noncomputable def rao30 (K : Params → KT) (w : World) (L : Lt) (τ : Nat → Nat) : Obj := ⟨(.type "cell"), none, (.cell (some (.int 1 (τ 437)))), ⟨[]⟩⟩
noncomputable def rao31 (K : Params → KT) (w : World) (L : Lt) (τ : Nat → Nat) : Obj := ⟨(.type "cell"), none, (.cell (some (.ref 191))), ⟨[]⟩⟩
noncomputable def rao32 (K : Params → KT) (w : World) (L : Lt) (τ : Nat → Nat) : Obj := ⟨(.type "list"), none, (.seq ⟨[(.ref 178), (.ref 191)]⟩ 2), ⟨[]⟩⟩
noncomputable def rao33 (K : Params → KT) (w : World) (L : Lt) (τ : Nat → Nat) : Obj := ⟨(.type "list"), none, (.seq ⟨[(.int 0 (τ 434))]⟩ 1), ⟨[]⟩⟩
noncomputable def rao34 (K : Params → KT) (w : World) (L : Lt) (τ : Nat → Nat) : Obj := ⟨(.type "list"), none, (.seq ⟨[(.int 1 (τ 447))]⟩ 1), ⟨[]⟩⟩
noncomputable def ral35 (K : Params → KT) (w : World) (L : Lt) (τ : Nat → Nat) : List (Addr × Obj) := [(137, rao21 K w L τ), (138, rao6 K w L τ), (139, rao22 K w L τ), (155, rao14 K w L τ), (165, rao23 K w L τ), (166, rao24 K w L τ), (167, rao25 K w L τ), (168, rao26 K w L τ), (169, rao30 K w L τ), (170, rao31 K w L τ), (171, rao32 K w L τ), (173, rao27 K w L τ), (178, rao33 K w L τ), (191, rao34 K w L τ)]
noncomputable def ra_lm17_0 (K : Params → KT) (w : World) (L : Lt) : Ctr := ⟨rax20 K w L, fun τ => dF (rax20 K w L τ).code, ral29 K w L, rac2 K w L, 176, fun τ => .next, ral35 K w L, rac2 K w L, 204⟩
noncomputable def ra_lm17_0_h (K : Params → KT) (w : World) (L : Lt) (hL : LtOk L 2) : List (Nat × Act) := [(469, S), (456, .comp .range), (338, S), (325, .comp .range), (301, S), (219, S), (206, .comp .range), (88, S), (75, .comp .range), (51, S)]
theorem ra_lm17_0_t (b : Pk) (L : Lt) (hL : LtOk L 2) : FinT (b.V z0.1) (ra_lm17_0 z0.1 b.w L) 517 (ra_lm17_0_h z0.1 b.w L hL) ⟨none, [(424, .cnt)]⟩ := by intro R p i τ υ; kernel_rfl
theorem ra_lm17_0_ok (b : Pk) (O : (b.V z0.1).Ok) (L : Lt) (hL : LtOk L 2) (hB : Bnd L) : (ra_lm17_0 z0.1 b.w L).Ok (b.V z0.1) := okF O (ra_lm17_0_t b L hL) (met .nil (by kernel_rfl))
noncomputable def rak36 (K : Params → KT) (w : World) (L : Lt) (τ : Nat → Nat) : Code := loopC (stmtAt (bodyK K w 130) [1, 0, 0]) (.ref 205) (rae17 K w L τ)
noncomputable def rax37 (K : Params → KT) (w : World) (L : Lt) (τ : Nat → Nat) : PySem.Ctx := ctxC (rak36 K w L τ) [((rak19 K w L τ), ⟨166, 21, 166, 37⟩), ((funcC (bodyK K w 130) (rae17 K w L τ)), ⟨164, 16, 164, 31⟩), ((funcC (bodyK K w 135) (rae0 K w L τ)), ⟨180, 16, 180, 33⟩), (callerC, ⟨0, 0, 0, 0⟩)]
noncomputable def rao38 (K : Params → KT) (w : World) (L : Lt) (τ : Nat → Nat) : Obj := ⟨(.type "cell"), none, (.cell (some (.int 2 (τ 450)))), ⟨[]⟩⟩
noncomputable def rao39 (K : Params → KT) (w : World) (L : Lt) (τ : Nat → Nat) : Obj := ⟨(.type "range_iterator"), none, (.fields ⟨[(.int 3 0), (.int 2 0), (.int 1 0)]⟩), ⟨[]⟩⟩
noncomputable def rao40 (K : Params → KT) (w : World) (L : Lt) (τ : Nat → Nat) : Obj := ⟨(.type "range_iterator"), none, (.fields ⟨[(.int 0 0), (.int 4 0), (.int 1 0)]⟩), ⟨[]⟩⟩
noncomputable def ral41 (K : Params → KT) (w : World) (L : Lt) (τ : Nat → Nat) : List (Addr × Obj) := [(137, rao21 K w L τ), (138, rao6 K w L τ), (139, rao22 K w L τ), (155, rao14 K w L τ), (165, rao23 K w L τ), (166, rao24 K w L τ), (167, rao25 K w L τ), (168, rao38 K w L τ), (169, rao30 K w L τ), (170, rao31 K w L τ), (171, rao32 K w L τ), (173, rao39 K w L τ), (178, rao33 K w L τ), (191, rao34 K w L τ), (205, rao40 K w L τ)]
noncomputable def rao42 (K : Params → KT) (w : World) (L : Lt) (τ : Nat → Nat) : Obj := ⟨(.type "cell"), none, (.cell (some (.int 3 (τ 525)))), ⟨[]⟩⟩
noncomputable def rao43 (K : Params → KT) (w : World) (L : Lt) (τ : Nat → Nat) : Obj := ⟨(.type "cell"), none, (.cell (some (.ref 262))), ⟨[]⟩⟩
noncomputable def rao44 (K : Params → KT) (w : World) (L : Lt) (τ : Nat → Nat) : Obj := ⟨(.type "list"), none, (.seq ⟨[(.ref 178), (.ref 191), (.ref 226)]⟩ 3), ⟨[]⟩⟩
noncomputable def rao45 (K : Params → KT) (w : World) (L : Lt) (τ : Nat → Nat) : Obj := ⟨(.type "list"), none, (.seq ⟨[(.int 0 (τ 489)), (.int 1 (τ 497))]⟩ 2), ⟨[]⟩⟩
noncomputable def ral46 (K : Params → KT) (w : World) (L : Lt) (τ : Nat → Nat) : List (Addr × Obj) := [(137, rao21 K w L τ), (138, rao6 K w L τ), (139, rao22 K w L τ), (155, rao14 K w L τ), (165, rao23 K w L τ), (166, rao24 K w L τ), (167, rao25 K w L τ), (168, rao38 K w L τ), (169, rao42 K w L τ), (170, rao43 K w L τ), (171, rao44 K w L τ), (173, rao39 K w L τ), (178, rao33 K w L τ), (191, rao34 K w L τ), (226, rao45 K w L τ)]
noncomputable def ra_lm36_0 (K : Params → KT) (w : World) (L : Lt) : Ctr := ⟨rax37 K w L, fun τ => dF (rax37 K w L τ).code, ral41 K w L, rac2 K w L, 206, fun τ => .next, ral46 K w L, rac2 K w L, 280⟩
noncomputable def ra_lm36_0_h (K : Params → KT) (w : World) (L : Lt) (hL : LtOk L 2) : List (Nat × Act) := [(1608, S), (1595, .comp .range), (1412, S), (1399, .comp .range), (1314, S), (1308, Q), (1307, Q), (1263, S), (1205, S), (1192, .comp .range), (1009, S), (996, .comp .range), (911, S), (903, S), (897, S), (863, S), (781, S), (768, .comp .range), (585, S), (572, .comp .range), (487, S), (479, S), (473, S), (430, S), (372, S), (359, .comp .range), (176, S), (163, .comp .range), (78, S), (72, Q), (71, Q), (27, S)]
theorem ra_lm36_0_t (b : Pk) (L : Lt) (hL : LtOk L 2) : FinT (b.V z0.1) (ra_lm36_0 z0.1 b.w L) 1656 (ra_lm36_0_h z0.1 b.w L hL) ⟨none, [(456, .cnt)]⟩ := by intro R p i τ υ; kernel_rfl
theorem ra_lm36_0_ok (b : Pk) (O : (b.V z0.1).Ok) (L : Lt) (hL : LtOk L 2) (hB : Bnd L) : (ra_lm36_0 z0.1 b.w L).Ok (b.V z0.1) := okF O (ra_lm36_0_t b L hL) (met .nil (by kernel_rfl))
noncomputable def rak47 (K : Params → KT) (w : World) (L : Lt) (τ : Nat → Nat) : Code := loopC (stmtAt (bodyK K w 130) [1, 0, 0]) (.ref 281) (rae17 K w L τ)
noncomputable def rax48 (K : Params → KT) (w : World) (L : Lt) (τ : Nat → Nat) : PySem.Ctx := ctxC (rak47 K w L τ) [((rak19 K w L τ), ⟨166, 21, 166, 37⟩), ((funcC (bodyK K w 130) (rae17 K w L τ)), ⟨164, 16, 164, 31⟩), ((funcC (bodyK K w 135) (rae0 K w L τ)), ⟨180, 16, 180, 33⟩), (callerC, ⟨0, 0, 0, 0⟩)]
noncomputable def rao49 (K : Params → KT) (w : World) (L : Lt) (τ : Nat → Nat) : Obj := ⟨(.type "cell"), none, (.cell (some (.int 4 (τ 551)))), ⟨[]⟩⟩
noncomputable def rao50 (K : Params → KT) (w : World) (L : Lt) (τ : Nat → Nat) : Obj := ⟨(.type "range_iterator"), none, (.fields ⟨[(.int 5 0), (.int 0 0), (.int 1 0)]⟩), ⟨[]⟩⟩
noncomputable def rao51 (K : Params → KT) (w : World) (L : Lt) (τ : Nat → Nat) : Obj := ⟨(.type "range_iterator"), none, (.fields ⟨[(.int 0 0), (.int 16 0), (.int 1 0)]⟩), ⟨[]⟩⟩
noncomputable def ral52 (K : Params → KT) (w : World) (L : Lt) (τ : Nat → Nat) : List (Addr × Obj) := [(137, rao21 K w L τ), (138, rao6 K w L τ), (139, rao22 K w L τ), (155, rao14 K w L τ), (165, rao23 K w L τ), (166, rao24 K w L τ), (167, rao25 K w L τ), (168, rao49 K w L τ), (169, rao42 K w L τ), (170, rao43 K w L τ), (171, rao44 K w L τ), (173, rao50 K w L τ), (178, rao33 K w L τ), (191, rao34 K w L τ), (226, rao45 K w L τ), (281, rao51 K w L τ)]
noncomputable def rao53 (K : Params → KT) (w : World) (L : Lt) (τ : Nat → Nat) : Obj := ⟨(.type "cell"), none, (.cell (some (.int 3 (τ 686)))), ⟨[]⟩⟩
noncomputable def rao54 (K : Params → KT) (w : World) (L : Lt) (τ : Nat → Nat) : Obj := ⟨(.type "cell"), none, (.cell (some (.ref 368))), ⟨[]⟩⟩
noncomputable def rao55 (K : Params → KT) (w : World) (L : Lt) (τ : Nat → Nat) : Obj := ⟨(.type "list"), none, (.seq ⟨[(.ref 178), (.ref 191), (.ref 226), (.ref 312), (.ref 368)]⟩ 5), ⟨[]⟩⟩
noncomputable def rao56 (K : Params → KT) (w : World) (L : Lt) (τ : Nat → Nat) : Obj := ⟨(.type "range_iterator"), none, (.fields ⟨[(.int 4 0), (.int 12 0), (.int 1 0)]⟩), ⟨[]⟩⟩
noncomputable def rao57 (K : Params → KT) (w : World) (L : Lt) (τ : Nat → Nat) : Obj := ⟨(.type "list"), none, (.seq ⟨[(.int 0 (τ 610)), (.int 0 (τ 618)), (.int 0 (τ 626)), (.int 1 (τ 634))]⟩ 4), ⟨[]⟩⟩
noncomputable def rao58 (K : Params → KT) (w : World) (L : Lt) (τ : Nat → Nat) : Obj := ⟨(.type "list"), none, (.seq ⟨[(.int 0 (τ 696)), (.int 0 (τ 704)), (.int 1 (τ 712)), (.int 1 (τ 720))]⟩ 4), ⟨[]⟩⟩
noncomputable def ral59 (K : Params → KT) (w : World) (L : Lt) (τ : Nat → Nat) : List (Addr × Obj) := [(137, rao21 K w L τ), (138, rao6 K w L τ), (139, rao22 K w L τ), (155, rao14 K w L τ), (165, rao23 K w L τ), (166, rao24 K w L τ), (167, rao25 K w L τ), (168, rao49 K w L τ), (169, rao53 K w L τ), (170, rao54 K w L τ), (171, rao55 K w L τ), (173, rao50 K w L τ), (178, rao33 K w L τ), (191, rao34 K w L τ), (226, rao45 K w L τ), (281, rao56 K w L τ), (312, rao57 K w L τ), (368, rao58 K w L τ)]
noncomputable def rao60 (K : Params → KT) (w : World) (L : Lt) (τ : Nat → Nat) : Obj := ⟨(.type "cell"), none, (.cell (some (.int 7 (τ 858)))), ⟨[]⟩⟩
noncomputable def rao61 (K : Params → KT) (w : World) (L : Lt) (τ : Nat → Nat) : Obj := ⟨(.type "cell"), none, (.cell (some (.ref 480))), ⟨[]⟩⟩
noncomputable def rao62 (K : Params → KT) (w : World) (L : Lt) (τ : Nat → Nat) : Obj := ⟨(.type "list"), none, (.seq ⟨[(.ref 178), (.ref 191), (.ref 226), (.ref 312), (.ref 368), (.ref 480)]⟩ 6), ⟨[]⟩⟩
noncomputable def rao63 (K : Params → KT) (w : World) (L : Lt) (τ : Nat → Nat) : Obj := ⟨(.type "range_iterator"), none, (.fields ⟨[(.int 8 0), (.int 8 0), (.int 1 0)]⟩), ⟨[]⟩⟩
noncomputable def rao64 (K : Params → KT) (w : World) (L : Lt) (τ : Nat → Nat) : Obj := ⟨(.type "list"), none, (.seq ⟨[(.int 0 (τ 868)), (.int 1 (τ 876)), (.int 1 (τ 884)), (.int 1 (τ 892))]⟩ 4), ⟨[]⟩⟩
noncomputable def ral65 (K : Params → KT) (w : World) (L : Lt) (τ : Nat → Nat) : List (Addr × Obj) := [(137, rao21 K w L τ), (138, rao6 K w L τ), (139, rao22 K w L τ), (155, rao14 K w L τ), (165, rao23 K w L τ), (166, rao24 K w L τ), (167, rao25 K w L τ), (168, rao49 K w L τ), (169, rao60 K w L τ), (170, rao61 K w L τ), (171, rao62 K w L τ), (173, rao50 K w L τ), (178, rao33 K w L τ), (191, rao34 K w L τ), (226, rao45 K w L τ), (281, rao63 K w L τ), (312, rao57 K w L τ), (368, rao58 K w L τ), (480, rao64 K w L τ)]
noncomputable def rao66 (K : Params → KT) (w : World) (L : Lt) (τ : Nat → Nat) : Obj := ⟨(.type "cell"), none, (.cell (some (.int 11 (τ 1030)))), ⟨[]⟩⟩
noncomputable def rao67 (K : Params → KT) (w : World) (L : Lt) (τ : Nat → Nat) : Obj := ⟨(.type "cell"), none, (.cell (some (.ref 592))), ⟨[]⟩⟩
noncomputable def rao68 (K : Params → KT) (w : World) (L : Lt) (τ : Nat → Nat) : Obj := ⟨(.type "range_iterator"), none, (.fields ⟨[(.int 12 0), (.int 4 0), (.int 1 0)]⟩), ⟨[]⟩⟩
noncomputable def ral69 (K : Params → KT) (w : World) (L : Lt) (τ : Nat → Nat) : List (Addr × Obj) := [(137, rao21 K w L τ), (138, rao6 K w L τ), (139, rao22 K w L τ), (155, rao14 K w L τ), (165, rao23 K w L τ), (166, rao24 K w L τ), (167, rao25 K w L τ), (168, rao49 K w L τ), (169, rao66 K w L τ), (170, rao67 K w L τ), (171, rao62 K w L τ), (173, rao50 K w L τ), (178, rao33 K w L τ), (191, rao34 K w L τ), (226, rao45 K w L τ), (281, rao68 K w L τ), (312, rao57 K w L τ), (368, rao58 K w L τ), (480, rao64 K w L τ)]
noncomputable def rao70 (K : Params → KT) (w : World) (L : Lt) (τ : Nat → Nat) : Obj := ⟨(.type "range_iterator"), none, (.fields ⟨[(.int 16 0), (.int 0 0), (.int 1 0)]⟩), ⟨[]⟩⟩
noncomputable def ral71 (K : Params → KT) (w : World) (L : Lt) (τ : Nat → Nat) : List (Addr × Obj) := [(137, rao21 K w L τ), (138, rao6 K w L τ), (139, rao22 K w L τ), (155, rao14 K w L τ), (165, rao23 K w L τ), (166, rao24 K w L τ), (171, rao62 K w L τ), (173, rao50 K w L τ), (178, rao33 K w L τ), (191, rao34 K w L τ), (226, rao45 K w L τ), (281, rao70 K w L τ), (312, rao57 K w L τ), (368, rao58 K w L τ), (480, rao64 K w L τ)]
noncomputable def ral72 (K : Params → KT) (w : World) (L : Lt) (τ : Nat → Nat) : List (Addr × Obj) := [(137, rao21 K w L τ), (138, rao6 K w L τ), (139, rao22 K w L τ), (155, rao14 K w L τ), (165, rao23 K w L τ), (166, rao24 K w L τ), (171, rao62 K w L τ), (173, rao50 K w L τ), (178, rao33 K w L τ), (191, rao34 K w L τ), (226, rao45 K w L τ), (312, rao57 K w L τ), (368, rao58 K w L τ), (480, rao64 K w L τ)]
noncomputable def ra_lm47_4 (K : Params → KT) (w : World) (L : Lt) : Ctr := ⟨rax48 K w L, fun τ => dF (rax48 K w L τ).code, ral71 K w L, rac2 K w L, 730, fun τ => .next, ral72 K w L, rac2 K w L, 732⟩
noncomputable def ra_lm47_4_h (K : Params → KT) (w : World) (L : Lt) (hL : LtOk L 2) : List (Nat × Act) := []
theorem ra_lm47_4_t (b : Pk) (L : Lt) (hL : LtOk L 2) : FinT (b.V z0.1) (ra_lm47_4 z0.1 b.w L) 17 (ra_lm47_4_h z0.1 b.w L hL) ⟨none, [(1245, .cnt)]⟩ := by intro R p i τ υ; kernel_rfl
theorem ra_lm47_4_ok (b : Pk) (O : (b.V z0.1).Ok) (L : Lt) (hL : LtOk L 2) (hB : Bnd L) : (ra_lm47_4 z0.1 b.w L).Ok (b.V z0.1) := okF O (ra_lm47_4_t b L hL) (met .nil (by kernel_rfl))
noncomputable def ra_lm47_3 (K : Params → KT) (w : World) (L : Lt) : Ctr := ⟨rax48 K w L, fun τ => dF (rax48 K w L τ).code, ral69 K w L, rac2 K w L, 618, fun τ => .next, ral72 K w L, rac2 K w L, 732⟩
noncomputable def ra_lm47_3_h (K : Params → KT) (w : World) (L : Lt) (hL : LtOk L 2) : List (Nat × Act) := [(3008, S), (2995, .comp .range), (2682, S), (2669, .comp .range), (2584, S), (2578, Q), (2575, S), (2569, S), (2469, S), (2461, S), (2455, S), (2355, S), (2347, S), (2341, S), (2298, S), (2240, S), (2227, .comp .range), (1914, S), (1901, .comp .range), (1816, S), (1810, Q), (1807, S), (1801, S), (1701, S), (1693, S), (1687, S), (1587, S), (1581, Q), (1580, Q), (1577, S), (1571, S), (1537, S), (1479, S), (1466, .comp .range), (1153, S), (1140, .comp .range), (1055, S), (1049, Q), (1048, Q), (1045, S), (1039, S), (939, S), (933, Q), (930, S), (924, S), (824, S), (816, S), (810, S), (767, S), (709, S), (696, .comp .range), (383, S), (370, .comp .range), (285, S), (279, Q), (278, Q), (277, Q), (276, Q), (175, S), (169, Q), (168, Q), (167, Q), (166, Q), (65, S), (59, Q), (58, Q), (57, Q), (56, Q), (12, S), (1, .meet)]
theorem ra_lm47_3_t (b : Pk) (L : Lt) (hL : LtOk L 2) : NextT (b.V z0.1) (ra_lm47_3 z0.1 b.w L) (ra_lm47_4 z0.1 b.w L) 3056 (ra_lm47_3_h z0.1 b.w L hL) ⟨none, [(1073, .cnt)]⟩ := by intro R p i τ υ; kernel_rfl
theorem ra_lm47_3_ok (b : Pk) (O : (b.V z0.1).Ok) (L : Lt) (hL : LtOk L 2) (hB : Bnd L) : (ra_lm47_3 z0.1 b.w L).Ok (b.V z0.1) := okN O (ra_lm47_3_t b L hL) (ra_lm47_4_ok b O L hL hB) ⟨rfl, rfl, rfl, rfl⟩ (met .nil (by kernel_rfl))
noncomputable def ra_lm47_2 (K : Params → KT) (w : World) (L : Lt) : Ctr := ⟨rax48 K w L, fun τ => dF (rax48 K w L τ).code, ral65 K w L, rac2 K w L, 506, fun τ => .next, ral72 K w L, rac2 K w L, 732⟩
noncomputable def ra_lm47_2_h (K : Params → KT) (w : World) (L : Lt) (hL : LtOk L 2) : List (Nat × Act) := [(2994, S), (2981, .comp .range), (2668, S), (2655, .comp .range), (2570, S), (2562, S), (2556, S), (2456, S), (2448, S), (2442, S), (2342, S), (2334, S), (2328, S), (2285, S), (2227, S), (2214, .comp .range), (1901, S), (1888, .comp .range), (1803, S), (1795, S), (1789, S), (1689, S), (1681, S), (1675, S), (1575, S), (1569, Q), (1566, S), (1560, S), (1526, S), (1468, S), (1455, .comp .range), (1142, S), (1129, .comp .range), (1044, S), (1036, S), (1030, S), (930, S), (924, Q), (923, Q), (922, Q), (921, Q), (820, S), (812, S), (806, S), (763, S), (705, S), (692, .comp .range), (379, S), (366, .comp .range), (281, S), (273, S), (267, S), (167, S), (161, Q), (158, S), (152, S), (61, S), (55, Q), (52, S), (46, S), (12, S), (1, .meet)]
theorem ra_lm47_2_t (b : Pk) (L : Lt) (hL : LtOk L 2) : NextT (b.V z0.1) (ra_lm47_2 z0.1 b.w L) (ra_lm47_3 z0.1 b.w L) 3042 (ra_lm47_2_h z0.1 b.w L hL) ⟨none, [(901, .cnt)]⟩ := by intro R p i τ υ; kernel_rfl
theorem ra_lm47_2_ok (b : Pk) (O : (b.V z0.1).Ok) (L : Lt) (hL : LtOk L 2) (hB : Bnd L) : (ra_lm47_2 z0.1 b.w L).Ok (b.V z0.1) := okN O (ra_lm47_2_t b L hL) (ra_lm47_3_ok b O L hL hB) ⟨rfl, rfl, rfl, rfl⟩ (met .nil (by kernel_rfl))
noncomputable def ra_lm47_1 (K : Params → KT) (w : World) (L : Lt) : Ctr := ⟨rax48 K w L, fun τ => dF (rax48 K w L τ).code, ral59 K w L, rac2 K w L, 394, fun τ => .next, ral72 K w L, rac2 K w L, 732⟩
noncomputable def ra_lm47_1_h (K : Params → KT) (w : World) (L : Lt) (hL : LtOk L 2) : List (Nat × Act) := [(2973, S), (2960, .comp .range), (2647, S), (2634, .comp .range), (2549, S), (2541, S), (2535, S), (2444, S), (2438, Q), (2435, S), (2429, S), (2329, S), (2323, Q), (2320, S), (2314, S), (2271, S), (2213, S), (2200, .comp .range), (1887, S), (1874, .comp .range), (1789, S), (1781, S), (1775, S), (1684, S), (1678, Q), (1677, Q), (1676, Q), (1675, Q), (1574, S), (1566, S), (1560, S), (1526, S), (1468, S), (1455, .comp .range), (1142, S), (1129, .comp .range), (1044, S), (1036, S), (1030, S), (939, S), (931, S), (925, S), (834, S), (828, Q), (825, S), (819, S), (776, S), (718, S), (705, .comp .range), (392, S), (379, .comp .range), (294, S), (286, S), (280, S), (189, S), (181, S), (175, S), (84, S), (76, S), (70, S), (36, S), (1, .meet)]
theorem ra_lm47_1_t (b : Pk) (L : Lt) (hL : LtOk L 2) : NextT (b.V z0.1) (ra_lm47_1 z0.1 b.w L) (ra_lm47_2 z0.1 b.w L) 3021 (ra_lm47_1_h z0.1 b.w L hL) ⟨none, [(729, .cnt)]⟩ := by intro R p i τ υ; kernel_rfl
theorem ra_lm47_1_ok (b : Pk) (O : (b.V z0.1).Ok) (L : Lt) (hL : LtOk L 2) (hB : Bnd L) : (ra_lm47_1 z0.1 b.w L).Ok (b.V z0.1) := okN O (ra_lm47_1_t b L hL) (ra_lm47_2_ok b O L hL hB) ⟨rfl, rfl, rfl, rfl⟩ (met .nil (by kernel_rfl))
noncomputable def ra_lm47_0 (K : Params → KT) (w : World) (L : Lt) : Ctr := ⟨rax48 K w L, fun τ => dF (rax48 K w L τ).code, ral52 K w L, rac2 K w L, 282, fun τ => .next, ral72 K w L, rac2 K w L, 732⟩
noncomputable def ra_lm47_0_h (K : Params → KT) (w : World) (L : Lt) (hL : LtOk L 2) : List (Nat × Act) := [(2993, S), (2980, .comp .range), (2667, S), (2654, .comp .range), (2569, S), (2563, Q), (2562, Q), (2561, Q), (2560, Q), (2459, S), (2453, Q), (2452, Q), (2451, Q), (2450, Q), (2349, S), (2343, Q), (2342, Q), (2341, Q), (2340, Q), (2296, S), (2238, S), (2225, .comp .range), (1912, S), (1899, .comp .range), (1814, S), (1808, Q), (1807, Q), (1804, S), (1798, S), (1707, S), (1701, Q), (1698, S), (1692, S), (1601, S), (1593, S), (1587, S), (1553, S), (1471, S), (1458, .comp .range), (1145, S), (1132, .comp .range), (1047, S), (1041, Q), (1038, S), (1032, S), (941, S), (933, S), (927, S), (836, S), (830, Q), (829, Q), (826, S), (820, S), (777, S), (719, S), (706, .comp .range), (393, S), (380, .comp .range), (295, S), (289, Q), (286, S), (280, S), (189, S), (181, S), (175, S), (84, S), (76, S), (70, S), (36, S), (1, .meet)]
theorem ra_lm47_0_t (b : Pk) (L : Lt) (hL : LtOk L 2) : NextT (b.V z0.1) (ra_lm47_0 z0.1 b.w L) (ra_lm47_1 z0.1 b.w L) 3041 (ra_lm47_0_h z0.1 b.w L hL) ⟨none, [(557, .cnt)]⟩ := by intro R p i τ υ; kernel_rfl
theorem ra_lm47_0_ok (b : Pk) (O : (b.V z0.1).Ok) (L : Lt) (hL : LtOk L 2) (hB : Bnd L) : (ra_lm47_0 z0.1 b.w L).Ok (b.V z0.1) := okN O (ra_lm47_0_t b L hL) (ra_lm47_1_ok b O L hL hB) ⟨rfl, rfl, rfl, rfl⟩ (met .nil (by kernel_rfl))
noncomputable def rak73 (K : Params → KT) (w : World) (L : Lt) (τ : Nat → Nat) : Code := loopC (stmtAt (bodyK K w 135) [7]) (.ref 738) (rae0 K w L τ)
noncomputable def rax74 (K : Params → KT) (w : World) (L : Lt) (τ : Nat → Nat) : PySem.Ctx := ctxC (rak73 K w L τ) [((funcC (bodyK K w 135) (rae0 K w L τ)), ⟨180, 16, 180, 33⟩), (callerC, ⟨0, 0, 0, 0⟩)]
noncomputable def rao75 (K : Params → KT) (w : World) (L : Lt) (τ : Nat → Nat) : Obj := ⟨(.type "list"), none, (.seq ⟨[(.ref 178), (.ref 312), (.ref 368), (.ref 226), (.ref 480), (.ref 191)]⟩ 2), ⟨[]⟩⟩
noncomputable def rao76 (K : Params → KT) (w : World) (L : Lt) (τ : Nat → Nat) : Obj := ⟨(.type "list_iterator"), none, (.fields ⟨[(.ref 735), (.int 0 0)]⟩), ⟨[]⟩⟩
noncomputable def ral77 (K : Params → KT) (w : World) (L : Lt) (τ : Nat → Nat) : List (Addr × Obj) := [(137, rao21 K w L τ), (138, rao6 K w L τ), (139, rao22 K w L τ), (155, rao14 K w L τ), (165, rao23 K w L τ), (178, rao33 K w L τ), (191, rao34 K w L τ), (226, rao45 K w L τ), (312, rao57 K w L τ), (368, rao58 K w L τ), (480, rao64 K w L τ), (735, rao75 K w L τ), (738, rao76 K w L τ)]
noncomputable def rao78 (K : Params → KT) (w : World) (L : Lt) (τ : Nat → Nat) : Obj := ⟨(.type "frame"), none, (.dict ⟨[entS w ⟨⟨[115, 99, 114, 105, 112, 116]⟩⟩ (τ 361) (.ref 136), entS w ⟨⟨[104, 101, 97, 100]⟩⟩ (τ 369) (.int L.h (τ 368)), entS w ⟨⟨[107]⟩⟩ (τ 382) (.int 2 (τ 370)), entS w ⟨⟨[110]⟩⟩ (τ 383) (.int 4 (τ 371)), entS w ⟨⟨[114]⟩⟩ (τ 393) (.int 1 (τ 392)), entS w ⟨⟨[108, 101, 116, 116, 101, 114, 115]⟩⟩ (τ 410) (.str (rel L [0, 1]) (τ 409)), entS w ⟨⟨[114, 111, 119]⟩⟩ (τ 411) (.ref 165), entS w ⟨⟨[119, 111, 114, 100]⟩⟩ (τ 1245) (.ref 191)]⟩ 8), ⟨[]⟩⟩
noncomputable def rao79 (K : Params → KT) (w : World) (L : Lt) (τ : Nat → Nat) : Obj := ⟨(.type "list"), none, (.seq ⟨[(.int (L.v 0) (τ 389)), (.int (L.v 0) (τ 389)), (.int (L.v 0) (τ 389)), (.int (L.v 0) (τ 389)), (.int (L.v 1) (τ 402)), (.int (L.v 0) (τ 389)), (.int (L.v 0) (τ 389)), (.int (L.v 1) (τ 402)), (.int (L.v 1) (τ 402)), (.int (L.v 0) (τ 389)), (.int (L.v 1) (τ 402)), (.int (L.v 0) (τ 389)), (.int (L.v 1) (τ 402)), (.int (L.v 1) (τ 402)), (.int (L.v 1) (τ 402)), (.int (L.v 1) (τ 402))]⟩ 6), ⟨[]⟩⟩
noncomputable def ral80 (K : Params → KT) (w : World) (L : Lt) (τ : Nat → Nat) : List (Addr × Obj) := [(137, rao78 K w L τ), (139, rao22 K w L τ), (165, rao79 K w L τ)]
noncomputable def ra_row73_0 (K : Params → KT) (w : World) (L : Lt) : Ctr := ⟨rax74 K w L, fun τ => dF (rax74 K w L τ).code, ral77 K w L, rac2 K w L, 739, fun τ => .next, ral80 K w L, rac2 K w L, 771⟩
noncomputable def ra_row73_0_h (K : Params → KT) (w : World) (L : Lt) (hL : LtOk L 2) : List (Nat × Act) := [(1109, S), (1099, .comp .list), (988, S), (978, .comp .list), (750, S), (740, .comp .list), (512, S), (502, .comp .list), (352, S), (342, .comp .list), (114, S), (104, .comp .list)]
theorem ra_row73_0_t (b : Pk) (L : Lt) (hL : LtOk L 2) : FinT (b.V z0.1) (ra_row73_0 z0.1 b.w L) 1135 (ra_row73_0_h z0.1 b.w L hL) ⟨none, [(1245, .cnt)]⟩ := by intro R p i τ υ; kernel_rfl
theorem ra_row73_0_ok (b : Pk) (O : (b.V z0.1).Ok) (L : Lt) (hL : LtOk L 2) (hB : Bnd L) : (ra_row73_0 z0.1 b.w L).Ok (b.V z0.1) := okF O (ra_row73_0_t b L hL) (met .nil (by kernel_rfl))
noncomputable def rae81 (K : Params → KT) (w : World) (L : Lt) (τ : Nat → Nat) : Env := ⟨(fdK K w 125).scope, 776, 3, [(⟨⟨[98, 101, 104, 105, 110, 100]⟩⟩, 778), (⟨⟨[116, 101, 120, 116]⟩⟩, 777)], ⟨⟨[95, 108, 97, 119, 95, 103, 114, 111, 119, 110, 46, 60, 108, 111, 99, 97, 108, 115, 62, 46]⟩⟩, some 125, (.ref 124), some 776, 0⟩
noncomputable def rak82 (K : Params → KT) (w : World) (L : Lt) (τ : Nat → Nat) : Code := loopC (stmtAt (bodyK K w 125) [1]) .none (rae81 K w L τ)
noncomputable def rax83 (K : Params → KT) (w : World) (L : Lt) (τ : Nat → Nat) : PySem.Ctx := ctxC (rak82 K w L τ) [((funcC (bodyK K w 125) (rae81 K w L τ)), ⟨155, 4, 160, 24⟩), ((funcC (bodyK K w 135) (rae0 K w L τ)), ⟨183, 11, 183, 33⟩), (callerC, ⟨0, 0, 0, 0⟩)]
noncomputable def rao84 (K : Params → KT) (w : World) (L : Lt) (τ : Nat → Nat) : Obj := ⟨(.type "frame"), none, (.dict ⟨[entS w ⟨⟨[115, 99, 114, 105, 112, 116]⟩⟩ (τ 361) (.ref 136), entS w ⟨⟨[104, 101, 97, 100]⟩⟩ (τ 369) (.int L.h (τ 368)), entS w ⟨⟨[107]⟩⟩ (τ 382) (.int 2 (τ 370)), entS w ⟨⟨[110]⟩⟩ (τ 383) (.int 4 (τ 371)), entS w ⟨⟨[114]⟩⟩ (τ 393) (.int 1 (τ 392)), entS w ⟨⟨[108, 101, 116, 116, 101, 114, 115]⟩⟩ (τ 410) (.str (rel L [0, 1]) (τ 409)), entS w ⟨⟨[114, 111, 119]⟩⟩ (τ 411) (.ref 165), entS w ⟨⟨[119, 111, 114, 100]⟩⟩ (τ 1245) (.ref 191), entS w ⟨⟨[115, 105, 103, 110, 115]⟩⟩ (τ 1307) (.str (rel L [0, 0, 0, 0, 1, 0, 0, 1, 1, 0, 1, 0, 1, 1, 1, 1]) (τ 1306))]⟩ 9), ⟨[]⟩⟩
noncomputable def rao85 (K : Params → KT) (w : World) (L : Lt) (τ : Nat → Nat) : Obj := ⟨(.type "frame"), none, (.dict ⟨[entS w ⟨⟨[108, 101, 116, 116, 101, 114, 115]⟩⟩ (τ 1308) (.str (rel L [0, 1]) (τ 409)), entS w ⟨⟨[110]⟩⟩ (τ 1309) (.int 4 (τ 371))]⟩ 2), ⟨[]⟩⟩
noncomputable def rao86 (K : Params → KT) (w : World) (L : Lt) (τ : Nat → Nat) : Obj := ⟨(.type "cell"), none, (.cell (some (.str (rel L [1, 1, 1, 1]) (τ 1313)))), ⟨[]⟩⟩
noncomputable def ral87 (K : Params → KT) (w : World) (L : Lt) (τ : Nat → Nat) : List (Addr × Obj) := [(137, rao84 K w L τ), (165, rao79 K w L τ), (776, rao85 K w L τ), (777, rao86 K w L τ), (778, rao7 K w L τ)]
noncomputable def rao88 (K : Params → KT) (w : World) (L : Lt) (τ : Nat → Nat) : Obj := ⟨(.type "frame"), none, (.dict ⟨[entS w ⟨⟨[115, 99, 114, 105, 112, 116]⟩⟩ (τ 361) (.ref 136), entS w ⟨⟨[104, 101, 97, 100]⟩⟩ (τ 369) (.int L.h (τ 368)), entS w ⟨⟨[107]⟩⟩ (τ 382) (.int 2 (τ 370)), entS w ⟨⟨[110]⟩⟩ (τ 383) (.int 4 (τ 371)), entS w ⟨⟨[114]⟩⟩ (τ 393) (.int 1 (τ 392)), entS w ⟨⟨[108, 101, 116, 116, 101, 114, 115]⟩⟩ (τ 410) (.str (rel L [0, 1]) (τ 409)), entS w ⟨⟨[114, 111, 119]⟩⟩ (τ 411) (.ref 165), entS w ⟨⟨[119, 111, 114, 100]⟩⟩ (τ 1245) (.ref 191), entS w ⟨⟨[115, 105, 103, 110, 115]⟩⟩ (τ 1307) (.str (rel L [0, 0, 0, 0, 1, 0, 0, 1, 1, 0, 1, 0, 1, 1, 1, 1]) (τ 1306))]⟩ 9), ⟨[(some (.ref 134)), (some (.ref 3)), none, (some .notImplemented), none, (some (.ref 135)), (some (.ref 0)), (some (.ref 139)), (some (.ref 138))]⟩⟩
noncomputable def rao89 (K : Params → KT) (w : World) (L : Lt) (τ : Nat → Nat) : Obj := ⟨(.type "frame"), none, (.dict ⟨[entS w ⟨⟨[108, 101, 116, 116, 101, 114, 115]⟩⟩ (τ 1308) (.str (rel L [0, 1]) (τ 409)), entS w ⟨⟨[110]⟩⟩ (τ 1309) (.int 4 (τ 371)), entS w ⟨⟨[102, 114, 101, 115, 104]⟩⟩ (τ 1380) (.ref 851)]⟩ 3), ⟨[(some (.ref 124)), (some (.ref 3)), none, (some (.ref 137)), none, (some (.ref 125)), (some (.ref 0)), (some (.ref 778)), (some (.ref 777))]⟩⟩
noncomputable def rao90 (K : Params → KT) (w : World) (L : Lt) (τ : Nat → Nat) : Obj := ⟨(.type "cell"), none, (.cell (some (.str (rel L [1, 1, 1, 1, 0, 0, 0]) (τ 1526)))), ⟨[]⟩⟩
noncomputable def rao91 (K : Params → KT) (w : World) (L : Lt) (τ : Nat → Nat) : Obj := ⟨(.type "cell"), none, (.cell (some (.str (rel L [1, 0, 0]) (τ 1463)))), ⟨[]⟩⟩
noncomputable def rao92 (K : Params → KT) (w : World) (L : Lt) (τ : Nat → Nat) : Obj := ⟨(.type "code"), none, .fields ⟨[(.str ⟨⟨[99, 111, 111, 114, 100, 95, 114, 101, 112, 114]⟩⟩ (τ 1344)), (.str ⟨⟨[115, 117, 102, 102, 105, 120, 101, 100, 95, 101, 114, 114, 46, 60, 108, 111, 99, 97, 108, 115, 62, 46, 99, 111, 111, 114, 100, 95, 114, 101, 112, 114]⟩⟩ (τ 1345)), (.str ⟨⟨[47, 99, 108, 97, 105, 109, 47, 99, 117, 116, 46, 112, 121]⟩⟩ (τ 1346)), (.int 21 0), (.int 2 0), (.int 0 0), (.int 0 0), (.int 19 0), (.ref 790), (.bool true), (.int 181 0), (.ref 791), .none, (.ref 792), (.ref 793), (.ref 794), (.int (τ 1351 : Nat) 0), (.int 21 0), (.str ⟨⟨[47, 99, 108, 97, 105, 109, 47, 99, 117, 116, 46, 112, 121]⟩⟩ (τ 1352))]⟩, ⟨[]⟩⟩
noncomputable def ral93 (K : Params → KT) (w : World) (L : Lt) (τ : Nat → Nat) : List (Addr × Obj) := [(137, rao88 K w L τ), (165, rao79 K w L τ), (776, rao89 K w L τ), (777, rao90 K w L τ), (778, rao91 K w L τ), (795, rao92 K w L τ)]
noncomputable def rac94 (K : Params → KT) (w : World) (L : Lt) (τ : Nat → Nat) : Ch := [(43, ⟨[(.int 21 0), (.int 4 0), (.ref 795)]⟩)]
noncomputable def rao95 (K : Params → KT) (w : World) (L : Lt) (τ : Nat → Nat) : Obj := ⟨(.type "frame"), none, (.dict ⟨[entS w ⟨⟨[108, 101, 116, 116, 101, 114, 115]⟩⟩ (τ 1308) (.str (rel L [0, 1]) (τ 409)), entS w ⟨⟨[110]⟩⟩ (τ 1309) (.int 4 (τ 371)), entS w ⟨⟨[102, 114, 101, 115, 104]⟩⟩ (τ 1380) (.ref 950)]⟩ 3), ⟨[(some (.ref 124)), (some (.ref 3)), none, (some (.ref 137)), none, (some (.ref 125)), (some (.ref 0)), (some (.ref 778)), (some (.ref 777))]⟩⟩
noncomputable def rao96 (K : Params → KT) (w : World) (L : Lt) (τ : Nat → Nat) : Obj := ⟨(.type "cell"), none, (.cell (some (.str (rel L [1, 1, 1, 1, 0, 0, 0, 0, 1, 0]) (τ 1739)))), ⟨[]⟩⟩
noncomputable def rao97 (K : Params → KT) (w : World) (L : Lt) (τ : Nat → Nat) : Obj := ⟨(.type "cell"), none, (.cell (some (.str (rel L [0, 0, 1]) (τ 1676)))), ⟨[]⟩⟩
noncomputable def ral98 (K : Params → KT) (w : World) (L : Lt) (τ : Nat → Nat) : List (Addr × Obj) := [(137, rao88 K w L τ), (165, rao79 K w L τ), (776, rao95 K w L τ), (777, rao96 K w L τ), (778, rao97 K w L τ), (795, rao92 K w L τ)]
noncomputable def rao99 (K : Params → KT) (w : World) (L : Lt) (τ : Nat → Nat) : Obj := ⟨(.type "frame"), none, (.dict ⟨[entS w ⟨⟨[108, 101, 116, 116, 101, 114, 115]⟩⟩ (τ 1308) (.str (rel L [0, 1]) (τ 409)), entS w ⟨⟨[110]⟩⟩ (τ 1309) (.int 4 (τ 371)), entS w ⟨⟨[102, 114, 101, 115, 104]⟩⟩ (τ 1380) (.ref 1078)]⟩ 3), ⟨[(some (.ref 124)), (some (.ref 3)), none, (some (.ref 137)), none, (some (.ref 125)), (some (.ref 0)), (some (.ref 778)), (some (.ref 777))]⟩⟩
noncomputable def rao100 (K : Params → KT) (w : World) (L : Lt) (τ : Nat → Nat) : Obj := ⟨(.type "cell"), none, (.cell (some (.str (rel L [1, 1, 1, 1, 0, 0, 0, 0, 1, 0, 0, 1, 1, 0]) (τ 2023)))), ⟨[]⟩⟩
noncomputable def rao101 (K : Params → KT) (w : World) (L : Lt) (τ : Nat → Nat) : Obj := ⟨(.type "cell"), none, (.cell (some (.str (rel L [0, 1, 1]) (τ 1960)))), ⟨[]⟩⟩
noncomputable def ral102 (K : Params → KT) (w : World) (L : Lt) (τ : Nat → Nat) : List (Addr × Obj) := [(137, rao88 K w L τ), (165, rao79 K w L τ), (776, rao99 K w L τ), (777, rao100 K w L τ), (778, rao101 K w L τ), (795, rao92 K w L τ)]
noncomputable def rao103 (K : Params → KT) (w : World) (L : Lt) (τ : Nat → Nat) : Obj := ⟨(.type "frame"), none, (.dict ⟨[entS w ⟨⟨[108, 101, 116, 116, 101, 114, 115]⟩⟩ (τ 1308) (.str (rel L [0, 1]) (τ 409)), entS w ⟨⟨[110]⟩⟩ (τ 1309) (.int 4 (τ 371)), entS w ⟨⟨[102, 114, 101, 115, 104]⟩⟩ (τ 1380) (.ref 1206)]⟩ 3), ⟨[(some (.ref 124)), (some (.ref 3)), none, (some (.ref 137)), none, (some (.ref 125)), (some (.ref 0)), (some (.ref 778)), (some (.ref 777))]⟩⟩
noncomputable def rao104 (K : Params → KT) (w : World) (L : Lt) (τ : Nat → Nat) : Obj := ⟨(.type "cell"), none, (.cell (some (.str (rel L [1, 1, 1, 1, 0, 0, 0, 0, 1, 0, 0, 1, 1, 0, 1, 0, 1, 1]) (τ 2320)))), ⟨[]⟩⟩
noncomputable def rao105 (K : Params → KT) (w : World) (L : Lt) (τ : Nat → Nat) : Obj := ⟨(.type "cell"), none, (.cell (some (.str (rel L [1, 0, 1]) (τ 2244)))), ⟨[]⟩⟩
noncomputable def ral106 (K : Params → KT) (w : World) (L : Lt) (τ : Nat → Nat) : List (Addr × Obj) := [(137, rao88 K w L τ), (165, rao79 K w L τ), (776, rao103 K w L τ), (777, rao104 K w L τ), (778, rao105 K w L τ), (795, rao92 K w L τ)]
noncomputable def ral107 (K : Params → KT) (w : World) (L : Lt) (τ : Nat → Nat) : List (Addr × Obj) := [(137, rao88 K w L τ), (165, rao79 K w L τ)]
noncomputable def ra_grow81_4 (K : Params → KT) (w : World) (L : Lt) : Ctr := ⟨rax83 K w L, fun τ => dF (rax83 K w L τ).code, ral106 K w L, rac94 K w L, 1233, fun τ => (.ret (.str (rel L [1, 1, 1, 1, 0, 0, 0, 0, 1, 0, 0, 1, 1, 0, 1, 0, 1, 1, 1]) (τ 2401))), ral107 K w L, rac94 K w L, 1285⟩
noncomputable def ra_grow81_4_h (K : Params → KT) (w : World) (L : Lt) (hL : LtOk L 2) : List (Nat × Act) := [(1707, S), (1652, S), (1649, .bi (biIter hL [0, 1] rfl)), (1641, .comp .ascii), (1517, .bi (biIndex hL [1, 1, 1, 1, 0, 0, 0, 0, 1, 0, 0, 1, 1, 0, 1, 0, 1, 1] [0, 1, 1, 0] rfl rfl)), (1477, S), (1474, .bi (biIter hL [1, 1, 1, 1, 0, 0, 0, 0, 1, 0] rfl)), (1459, S), (1439, S), (1419, S), (1399, S), (1379, S), (1359, S), (1339, S), (1319, S), (1299, S), (1279, S), (1198, S), (1195, .bi (biEq hL [0, 1, 1, 0] [0, 1, 1, 0] rfl rfl)), (1066, .bi (biIndex hL [1, 1, 1, 1, 0, 0, 0, 0, 1, 0, 0, 1, 1, 0, 1, 0, 1, 1] [0, 1, 1, 1] rfl rfl)), (993, S), (990, .bi (biRepr hL [0, 1, 1, 1] rfl rfl)), (986, H (.cnt 64)), (941, H (.cnt 64)), (895, S), (885, H (.un 941 5)), (700, S), (646, S), (591, S), (588, .bi (biIter hL [0, 1] rfl)), (580, .comp .ascii), (456, .bi (biIndex hL [1, 1, 1, 1, 0, 0, 0, 0, 1, 0, 0, 1, 1, 0, 1, 0, 1, 1, 1] [1, 1, 1, 0] rfl rfl)), (416, S), (413, .bi (biIter hL [1] rfl)), (398, S), (317, S), (314, .bi (biEq hL [1, 1, 1, 0] [1, 1, 1, 0] rfl rfl)), (185, .bi (biIndex hL [1, 1, 1, 1, 0, 0, 0, 0, 1, 0, 0, 1, 1, 0, 1, 0, 1, 1, 1] [1, 1, 1, 1] rfl rfl)), (145, S), (67, S), (64, .bi (biEq hL [1, 1, 1, 1] [1, 1, 1, 1] rfl rfl)), (18, S)]
theorem ra_grow81_4_t (b : Pk) (L : Lt) (hL : LtOk L 2) : FinT (b.V z0.1) (ra_grow81_4 z0.1 b.w L) 1726 (ra_grow81_4_h z0.1 b.w L hL) ⟨none, [(2397, .un 885), (2391, .un 941), (2386, .un 986), (2321, .cnt)]⟩ := by intro R p i τ υ; kernel_rfl
theorem ra_grow81_4_ok (b : Pk) (O : (b.V z0.1).Ok) (L : Lt) (hL : LtOk L 2) (hB : Bnd L) : (ra_grow81_4 z0.1 b.w L).Ok (b.V z0.1) := okF O (ra_grow81_4_t b L hL) (met .nil (by kernel_rfl))
noncomputable def ra_grow81_3 (K : Params → KT) (w : World) (L : Lt) : Ctr := ⟨rax83 K w L, fun τ => dF (rax83 K w L τ).code, ral102 K w L, rac94 K w L, 1111, fun τ => (.ret (.str (rel L [1, 1, 1, 1, 0, 0, 0, 0, 1, 0, 0, 1, 1, 0, 1, 0, 1, 1, 1]) (τ 2401))), ral107 K w L, rac94 K w L, 1285⟩
noncomputable def ra_grow81_3_h (K : Params → KT) (w : World) (L : Lt) (hL : LtOk L 2) : List (Nat × Act) := [(4045, S), (3990, S), (3987, .bi (biIter hL [0, 1] rfl)), (3979, .comp .ascii), (3855, .bi (biIndex hL [1, 1, 1, 1, 0, 0, 0, 0, 1, 0, 0, 1, 1, 0] [1, 1, 0, 0] rfl rfl)), (3815, S), (3812, .bi (biIter hL [1, 1] rfl)), (3797, S), (3777, S), (3696, S), (3693, .bi (biEq hL [1, 1, 0, 0] [1, 1, 0, 0] rfl rfl)), (3564, .bi (biIndex hL [1, 1, 1, 1, 0, 0, 0, 0, 1, 0, 0, 1, 1, 0] [1, 1, 0, 1] rfl rfl)), (3491, S), (3488, .bi (biRepr hL [1, 1, 0, 1] rfl rfl)), (3484, H (.cnt 48)), (3439, H (.cnt 48)), (3393, S), (3383, H (.un 3439 5)), (3198, S), (3144, S), (3089, S), (3086, .bi (biIter hL [0, 1] rfl)), (3078, .comp .ascii), (2954, .bi (biIndex hL [1, 1, 1, 1, 0, 0, 0, 0, 1, 0, 0, 1, 1, 0, 1] [1, 0, 1, 0] rfl rfl)), (2881, S), (2878, .bi (biRepr hL [1, 0, 1, 0] rfl rfl)), (2874, H (.un 3383 30)), (2829, H (.un 3383 30)), (2783, S), (2773, H (.un 2829 5)), (2505, .bi (biIndex hL [1, 1, 1, 1, 0, 0, 0, 0, 1, 0, 0, 1, 1, 0, 1] [1, 0, 1, 1] rfl rfl)), (2432, S), (2429, .bi (biRepr hL [1, 0, 1, 1] rfl rfl)), (2425, H (.un 2773 18)), (2380, H (.un 2773 18)), (2334, S), (2324, H (.un 2380 5)), (2139, S), (2085, S), (2030, S), (2027, .bi (biIter hL [0, 1] rfl)), (2019, .comp .ascii), (1895, .bi (biIndex hL [1, 1, 1, 1, 0, 0, 0, 0, 1, 0, 0, 1, 1, 0, 1, 0] [0, 1, 0, 0] rfl rfl)), (1855, S), (1852, .bi (biIter hL [1, 1, 1, 1, 0, 0, 0] rfl)), (1837, S), (1817, S), (1797, S), (1777, S), (1757, S), (1737, S), (1717, S), (1636, S), (1633, .bi (biEq hL [0, 1, 0, 0] [0, 1, 0, 0] rfl rfl)), (1504, .bi (biIndex hL [1, 1, 1, 1, 0, 0, 0, 0, 1, 0, 0, 1, 1, 0, 1, 0] [0, 1, 0, 1] rfl rfl)), (1431, S), (1428, .bi (biRepr hL [0, 1, 0, 1] rfl rfl)), (1424, H (.un 2324 63)), (1379, H (.un 2324 63)), (1333, S), (1323, H (.un 1379 5)), (1138, S), (1084, S), (1029, S), (1026, .bi (biIter hL [0, 1] rfl)), (1018, .comp .ascii), (894, .bi (biIndex hL [1, 1, 1, 1, 0, 0, 0, 0, 1, 0, 0, 1, 1, 0, 1, 0, 1] [1, 0, 1, 0] rfl rfl)), (854, S), (851, .bi (biIter hL [1, 1, 1, 1, 0, 0, 0, 0, 1, 0, 0, 1] rfl)), (836, S), (816, S), (796, S), (776, S), (756, S), (736, S), (716, S), (696, S), (676, S), (656, S), (636, S), (616, S), (535, S), (532, .bi (biEq hL [1, 0, 1, 0] [1, 0, 1, 0] rfl rfl)), (403, .bi (biIndex hL [1, 1, 1, 1, 0, 0, 0, 0, 1, 0, 0, 1, 1, 0, 1, 0, 1] [1, 0, 1, 1] rfl rfl)), (330, S), (327, .bi (biRepr hL [1, 0, 1, 1] rfl rfl)), (323, H (.un 1323 73)), (278, H (.un 1323 73)), (232, S), (222, H (.un 278 5)), (37, S), (1, .meet)]
theorem ra_grow81_3_t (b : Pk) (L : Lt) (hL : LtOk L 2) : NextT (b.V z0.1) (ra_grow81_3 z0.1 b.w L) (ra_grow81_4 z0.1 b.w L) 4064 (ra_grow81_3_h z0.1 b.w L hL) ⟨none, [(2316, .un 222), (2310, .un 278), (2305, .un 323), (2231, .un 1323), (2225, .un 1379), (2220, .un 1424), (2156, .un 2324), (2150, .un 2380), (2145, .un 2425), (2126, .un 2773), (2120, .un 2829), (2115, .un 2874), (2084, .un 3383), (2078, .un 3439), (2073, .un 3484), (2024, .cnt)]⟩ := by intro R p i τ υ; kernel_rfl
theorem ra_grow81_3_ok (b : Pk) (O : (b.V z0.1).Ok) (L : Lt) (hL : LtOk L 2) (hB : Bnd L) : (ra_grow81_3 z0.1 b.w L).Ok (b.V z0.1) := okN O (ra_grow81_3_t b L hL) (ra_grow81_4_ok b O L hL hB) ⟨rfl, rfl, rfl, rfl⟩ (met .nil (by kernel_rfl))
noncomputable def ra_grow81_2 (K : Params → KT) (w : World) (L : Lt) : Ctr := ⟨rax83 K w L, fun τ => dF (rax83 K w L τ).code, ral98 K w L, rac94 K w L, 983, fun τ => (.ret (.str (rel L [1, 1, 1, 1, 0, 0, 0, 0, 1, 0, 0, 1, 1, 0, 1, 0, 1, 1, 1]) (τ 2401))), ral107 K w L, rac94 K w L, 1285⟩
noncomputable def ra_grow81_2_h (K : Params → KT) (w : World) (L : Lt) (hL : LtOk L 2) : List (Nat × Act) := [(4003, S), (3948, S), (3945, .bi (biIter hL [0, 1] rfl)), (3937, .comp .ascii), (3813, .bi (biIndex hL [1, 1, 1, 1, 0, 0, 0, 0, 1, 0] [0, 1, 0, 0] rfl rfl)), (3740, S), (3737, .bi (biRepr hL [0, 1, 0, 0] rfl rfl)), (3733, H (.cnt 25)), (3688, H (.cnt 25)), (3642, S), (3632, H (.un 3688 5)), (3364, .bi (biIndex hL [1, 1, 1, 1, 0, 0, 0, 0, 1, 0] [0, 1, 0, 1] rfl rfl)), (3291, S), (3288, .bi (biRepr hL [0, 1, 0, 1] rfl rfl)), (3284, H (.un 3632 18)), (3239, H (.un 3632 18)), (3193, S), (3183, H (.un 3239 5)), (2998, S), (2944, S), (2889, S), (2886, .bi (biIter hL [0, 1] rfl)), (2878, .comp .ascii), (2754, .bi (biIndex hL [1, 1, 1, 1, 0, 0, 0, 0, 1, 0, 0] [1, 0, 0, 0] rfl rfl)), (2714, S), (2711, .bi (biIter hL [1, 1, 1] rfl)), (2696, S), (2676, S), (2656, S), (2575, S), (2572, .bi (biEq hL [1, 0, 0, 0] [1, 0, 0, 0] rfl rfl)), (2443, .bi (biIndex hL [1, 1, 1, 1, 0, 0, 0, 0, 1, 0, 0] [1, 0, 0, 1] rfl rfl)), (2370, S), (2367, .bi (biRepr hL [1, 0, 0, 1] rfl rfl)), (2363, H (.un 3183 55)), (2318, H (.un 3183 55)), (2272, S), (2262, H (.un 2318 5)), (2077, S), (2023, S), (1968, S), (1965, .bi (biIter hL [0, 1] rfl)), (1957, .comp .ascii), (1833, .bi (biIndex hL [1, 1, 1, 1, 0, 0, 0, 0, 1, 0, 0, 1] [0, 0, 1, 0] rfl rfl)), (1793, S), (1790, .bi (biIter hL [1, 1, 1, 1, 0, 0] rfl)), (1775, S), (1755, S), (1735, S), (1715, S), (1695, S), (1675, S), (1594, S), (1591, .bi (biEq hL [0, 0, 1, 0] [0, 0, 1, 0] rfl rfl)), (1462, .bi (biIndex hL [1, 1, 1, 1, 0, 0, 0, 0, 1, 0, 0, 1] [0, 0, 1, 1] rfl rfl)), (1389, S), (1386, .bi (biRepr hL [0, 0, 1, 1] rfl rfl)), (1382, H (.un 2262 61)), (1337, H (.un 2262 61)), (1291, S), (1281, H (.un 1337 5)), (1096, S), (1042, S), (987, S), (984, .bi (biIter hL [0, 1] rfl)), (976, .comp .ascii), (852, .bi (biIndex hL [1, 1, 1, 1, 0, 0, 0, 0, 1, 0, 0, 1, 1] [0, 1, 1, 0] rfl rfl)), (779, S), (776, .bi (biRepr hL [0, 1, 1, 0] rfl rfl)), (772, H (.un 1281 30)), (727, H (.un 1281 30)), (681, S), (671, H (.un 727 5)), (403, .bi (biIndex hL [1, 1, 1, 1, 0, 0, 0, 0, 1, 0, 0, 1, 1] [0, 1, 1, 1] rfl rfl)), (330, S), (327, .bi (biRepr hL [0, 1, 1, 1] rfl rfl)), (323, H (.un 671 18)), (278, H (.un 671 18)), (232, S), (222, H (.un 278 5)), (37, S), (1, .meet)]
theorem ra_grow81_2_t (b : Pk) (L : Lt) (hL : LtOk L 2) : NextT (b.V z0.1) (ra_grow81_2 z0.1 b.w L) (ra_grow81_3 z0.1 b.w L) 4022 (ra_grow81_2_h z0.1 b.w L hL) ⟨none, [(2019, .un 222), (2013, .un 278), (2008, .un 323), (1989, .un 671), (1983, .un 727), (1978, .un 772), (1947, .un 1281), (1941, .un 1337), (1936, .un 1382), (1874, .un 2262), (1868, .un 2318), (1863, .un 2363), (1807, .un 3183), (1801, .un 3239), (1796, .un 3284), (1777, .un 3632), (1771, .un 3688), (1766, .un 3733), (1740, .cnt)]⟩ := by intro R p i τ υ; kernel_rfl
theorem ra_grow81_2_ok (b : Pk) (O : (b.V z0.1).Ok) (L : Lt) (hL : LtOk L 2) (hB : Bnd L) : (ra_grow81_2 z0.1 b.w L).Ok (b.V z0.1) := okN O (ra_grow81_2_t b L hL) (ra_grow81_3_ok b O L hL hB) ⟨rfl, rfl, rfl, rfl⟩ (met .nil (by kernel_rfl))
noncomputable def ra_grow81_1 (K : Params → KT) (w : World) (L : Lt) : Ctr := ⟨rax83 K w L, fun τ => dF (rax83 K w L τ).code, ral93 K w L, rac94 K w L, 884, fun τ => (.ret (.str (rel L [1, 1, 1, 1, 0, 0, 0, 0, 1, 0, 0, 1, 1, 0, 1, 0, 1, 1, 1]) (τ 2401))), ral107 K w L, rac94 K w L, 1285⟩
noncomputable def ra_grow81_1_h (K : Params → KT) (w : World) (L : Lt) (hL : LtOk L 2) : List (Nat × Act) := [(3042, S), (2987, S), (2984, .bi (biIter hL [0, 1] rfl)), (2976, .comp .ascii), (2852, .bi (biIndex hL [1, 1, 1, 1, 0, 0, 0] [0, 0, 0, 0] rfl rfl)), (2779, S), (2776, .bi (biRepr hL [0, 0, 0, 0] rfl rfl)), (2772, H (.cnt 25)), (2727, H (.cnt 25)), (2681, S), (2671, H (.un 2727 5)), (2403, .bi (biIndex hL [1, 1, 1, 1, 0, 0, 0] [0, 0, 0, 1] rfl rfl)), (2330, S), (2327, .bi (biRepr hL [0, 0, 0, 1] rfl rfl)), (2323, H (.un 2671 18)), (2278, H (.un 2671 18)), (2232, S), (2222, H (.un 2278 5)), (2037, S), (1983, S), (1928, S), (1925, .bi (biIter hL [0, 1] rfl)), (1917, .comp .ascii), (1793, .bi (biIndex hL [1, 1, 1, 1, 0, 0, 0, 0] [0, 0, 0, 0] rfl rfl)), (1753, S), (1750, .bi (biIter hL [1, 1, 1, 1] rfl)), (1735, S), (1715, S), (1695, S), (1675, S), (1594, S), (1591, .bi (biEq hL [0, 0, 0, 0] [0, 0, 0, 0] rfl rfl)), (1462, .bi (biIndex hL [1, 1, 1, 1, 0, 0, 0, 0] [0, 0, 0, 1] rfl rfl)), (1389, S), (1386, .bi (biRepr hL [0, 0, 0, 1] rfl rfl)), (1382, H (.un 2222 57)), (1337, H (.un 2222 57)), (1291, S), (1281, H (.un 1337 5)), (1096, S), (1042, S), (987, S), (984, .bi (biIter hL [0, 1] rfl)), (976, .comp .ascii), (852, .bi (biIndex hL [1, 1, 1, 1, 0, 0, 0, 0, 1] [0, 0, 1, 0] rfl rfl)), (779, S), (776, .bi (biRepr hL [0, 0, 1, 0] rfl rfl)), (772, H (.un 1281 30)), (727, H (.un 1281 30)), (681, S), (671, H (.un 727 5)), (403, .bi (biIndex hL [1, 1, 1, 1, 0, 0, 0, 0, 1] [0, 0, 1, 1] rfl rfl)), (330, S), (327, .bi (biRepr hL [0, 0, 1, 1] rfl rfl)), (323, H (.un 671 18)), (278, H (.un 671 18)), (232, S), (222, H (.un 278 5)), (37, S), (1, .meet)]
theorem ra_grow81_1_t (b : Pk) (L : Lt) (hL : LtOk L 2) : NextT (b.V z0.1) (ra_grow81_1 z0.1 b.w L) (ra_grow81_2 z0.1 b.w L) 3061 (ra_grow81_1_h z0.1 b.w L hL) ⟨none, [(1735, .un 222), (1729, .un 278), (1724, .un 323), (1705, .un 671), (1699, .un 727), (1694, .un 772), (1663, .un 1281), (1657, .un 1337), (1652, .un 1382), (1594, .un 2222), (1588, .un 2278), (1583, .un 2323), (1564, .un 2671), (1558, .un 2727), (1553, .un 2772), (1527, .cnt)]⟩ := by intro R p i τ υ; kernel_rfl
theorem ra_grow81_1_ok (b : Pk) (O : (b.V z0.1).Ok) (L : Lt) (hL : LtOk L 2) (hB : Bnd L) : (ra_grow81_1 z0.1 b.w L).Ok (b.V z0.1) := okN O (ra_grow81_1_t b L hL) (ra_grow81_2_ok b O L hL hB) ⟨rfl, rfl, rfl, rfl⟩ (met .nil (by kernel_rfl))
noncomputable def ra_grow81_0 (K : Params → KT) (w : World) (L : Lt) : Ctr := ⟨rax83 K w L, fun τ => dF (rax83 K w L τ).code, ral87 K w L, rac2 K w L, 779, fun τ => (.ret (.str (rel L [1, 1, 1, 1, 0, 0, 0, 0, 1, 0, 0, 1, 1, 0, 1, 0, 1, 1, 1]) (τ 2401))), ral107 K w L, rac94 K w L, 1285⟩
noncomputable def ra_grow81_0_h (K : Params → KT) (w : World) (L : Lt) (hL : LtOk L 2) : List (Nat × Act) := [(2983, S), (2928, S), (2925, .bi (biIter hL [0, 1] rfl)), (2917, .comp .ascii), (2793, .bi (biIndex hL [1, 1, 1, 1] [1, 1, 1, 0] rfl rfl)), (2716, S), (2713, .bi (biRepr hL [1, 1, 1, 0] rfl rfl)), (2709, H (.cnt 25)), (2646, H (.cnt 25)), (2600, S), (2590, H (.un 2646 5)), (2322, .bi (biIndex hL [1, 1, 1, 1] [1, 1, 1, 1] rfl rfl)), (2282, S), (2204, S), (2201, .bi (biEq hL [1, 1, 1, 1] [1, 1, 1, 1] rfl rfl)), (2155, S), (2101, S), (2046, S), (2043, .bi (biIter hL [0, 1] rfl)), (2035, .comp .ascii), (1911, .bi (biIndex hL [1, 1, 1, 1, 0] [1, 1, 0, 0] rfl rfl)), (1838, S), (1835, .bi (biRepr hL [1, 1, 0, 0] rfl rfl)), (1831, H (.un 2590 48)), (1786, H (.un 2590 48)), (1740, S), (1730, H (.un 1786 5)), (1462, .bi (biIndex hL [1, 1, 1, 1, 0] [1, 1, 0, 1] rfl rfl)), (1389, S), (1386, .bi (biRepr hL [1, 1, 0, 1] rfl rfl)), (1382, H (.un 1730 18)), (1337, H (.un 1730 18)), (1291, S), (1281, H (.un 1337 5)), (1096, S), (1042, S), (987, S), (984, .bi (biIter hL [0, 1] rfl)), (976, .comp .ascii), (852, .bi (biIndex hL [1, 1, 1, 1, 0, 0] [1, 0, 0, 0] rfl rfl)), (779, S), (776, .bi (biRepr hL [1, 0, 0, 0] rfl rfl)), (772, H (.un 1281 30)), (727, H (.un 1281 30)), (681, S), (671, H (.un 727 5)), (403, .bi (biIndex hL [1, 1, 1, 1, 0, 0] [1, 0, 0, 1] rfl rfl)), (330, S), (327, .bi (biRepr hL [1, 0, 0, 1] rfl rfl)), (323, H (.un 671 18)), (278, H (.un 671 18)), (232, S), (222, H (.un 278 5)), (37, S), (1, .meet)]
theorem ra_grow81_0_t (b : Pk) (L : Lt) (hL : LtOk L 2) : NextT (b.V z0.1) (ra_grow81_0 z0.1 b.w L) (ra_grow81_1 z0.1 b.w L) 3002 (ra_grow81_0_h z0.1 b.w L hL) ⟨none, [(1522, .un 222), (1516, .un 278), (1511, .un 323), (1492, .un 671), (1486, .un 727), (1481, .un 772), (1450, .un 1281), (1444, .un 1337), (1439, .un 1382), (1420, .un 1730), (1414, .un 1786), (1409, .un 1831), (1360, .un 2590), (1354, .un 2646), (1340, .un 2709), (1314, .cnt)]⟩ := by intro R p i τ υ; kernel_rfl
theorem ra_grow81_0_ok (b : Pk) (O : (b.V z0.1).Ok) (L : Lt) (hL : LtOk L 2) (hB : Bnd L) : (ra_grow81_0 z0.1 b.w L).Ok (b.V z0.1) := okN O (ra_grow81_0_t b L hL) (ra_grow81_1_ok b O L hL hB) ⟨rfl, rfl, rfl, rfl⟩ (met .nil (by kernel_rfl))
noncomputable def rae108 (K : Params → KT) (w : World) (L : Lt) (τ : Nat → Nat) : Env := ⟨(fdK K w 98).scope, 1298, 3, [], ⟨⟨[97, 50, 98, 95, 98, 97, 115, 101, 54, 52, 46, 60, 108, 111, 99, 97, 108, 115, 62, 46]⟩⟩, some 98, (.ref 97), some 1298, 0⟩
noncomputable def rak109 (K : Params → KT) (w : World) (L : Lt) (τ : Nat → Nat) : Code := loopC (stmtAt (bodyK K w 98) [7]) (.ref 1302) (rae108 K w L τ)
noncomputable def rae110 (K : Params → KT) (w : World) (L : Lt) (τ : Nat → Nat) : Env := ⟨(fdK K w 106).scope, 1296, 3, [], ⟨⟨[98, 54, 52, 100, 101, 99, 111, 100, 101, 46, 60, 108, 111, 99, 97, 108, 115, 62, 46]⟩⟩, some 106, (.ref 105), some 1296, 0⟩
noncomputable def rax111 (K : Params → KT) (w : World) (L : Lt) (τ : Nat → Nat) : PySem.Ctx := ctxC (.call (.ref 90) ⟨[.int (bv L 0) (τ 2546)], []⟩) [((rak109 K w L τ), ⟨98, 18, 98, 37⟩), ((funcC (bodyK K w 98) (rae108 K w L τ)), ⟨84, 19, 84, 29⟩), ((funcC (bodyK K w 106) (rae110 K w L τ)), ⟨137, 11, 137, 46⟩), ((funcC (bodyK K w 135) (rae0 K w L τ)), ⟨187, 11, 187, 88⟩), (callerC, ⟨0, 0, 0, 0⟩)]
noncomputable def ra_v108 (K : Params → KT) (w : World) (L : Lt) : FnC := ⟨rax111 K w L, 1303, fun τ => .ret (.int (L.v 0) (τ 2553)), 1304, rac94 K w L, fun _ => []⟩
noncomputable def ra_v108_U_h (K : Params → KT) (w : World) (L : Lt) (c : Cls L 0 65 90 65) : List (Nat × Act) := [(23, S), (20, .bi (cLeT c 65 rfl)), (16, S), (13, .bi (cGeT c 90 rfl)), (4, .bi (cSub c 65 rfl))]
theorem ra_v108_U_t (b : Pk) (L : Lt) (c : Cls L 0 65 90 65) : FnT (b.V z0.1) (ra_v108 z0.1 b.w L) 40 (ra_v108_U_h z0.1 b.w L c) ⟨none, [(2549, .cnt)]⟩ := by intro h₁ R p i τ υ; kernel_rfl
theorem ra_v108_U_ok (b : Pk) (O : (b.V z0.1).Ok) (L : Lt) (c : Cls L 0 65 90 65) : (ra_v108 z0.1 b.w L).Ok (b.V z0.1) := okFn O (ra_v108_U_t b L c) (by kernel_rfl) (by kernel_rfl)
theorem ra_v108_ok (b : Pk) (O : (b.V z0.1).Ok) (L : Lt) (hL : LtOk L 2) (hB : Bnd L) : (ra_v108 z0.1 b.w L).Ok (b.V z0.1) := by
  have z := hB.v0
  rcases cls_of hL (r := 0) rfl with ⟨_, c⟩ | ⟨e, _, c⟩ | ⟨e, _, c⟩ | ⟨e, c⟩ | ⟨e, c⟩
  · exact ra_v108_U_ok b O L c
  · omega
  · omega
  · omega
  · omega
noncomputable def rax113 (K : Params → KT) (w : World) (L : Lt) (τ : Nat → Nat) : PySem.Ctx := ctxC (.call (.ref 90) ⟨[.int (bv L 0) (τ 2565)], []⟩) [((rak109 K w L τ), ⟨98, 18, 98, 37⟩), ((funcC (bodyK K w 98) (rae108 K w L τ)), ⟨84, 19, 84, 29⟩), ((funcC (bodyK K w 106) (rae110 K w L τ)), ⟨137, 11, 137, 46⟩), ((funcC (bodyK K w 135) (rae0 K w L τ)), ⟨187, 11, 187, 88⟩), (callerC, ⟨0, 0, 0, 0⟩)]
noncomputable def ra_v113 (K : Params → KT) (w : World) (L : Lt) : FnC := ⟨rax113 K w L, 1304, fun τ => .ret (.int (L.v 0) (τ 2572)), 1305, rac94 K w L, fun _ => []⟩
noncomputable def ra_v113_U_h (K : Params → KT) (w : World) (L : Lt) (c : Cls L 0 65 90 65) : List (Nat × Act) := [(23, S), (20, .bi (cLeT c 65 rfl)), (16, S), (13, .bi (cGeT c 90 rfl)), (4, .bi (cSub c 65 rfl))]
theorem ra_v113_U_t (b : Pk) (L : Lt) (c : Cls L 0 65 90 65) : FnT (b.V z0.1) (ra_v113 z0.1 b.w L) 40 (ra_v113_U_h z0.1 b.w L c) ⟨none, [(2568, .cnt)]⟩ := by intro h₁ R p i τ υ; kernel_rfl
theorem ra_v113_U_ok (b : Pk) (O : (b.V z0.1).Ok) (L : Lt) (c : Cls L 0 65 90 65) : (ra_v113 z0.1 b.w L).Ok (b.V z0.1) := okFn O (ra_v113_U_t b L c) (by kernel_rfl) (by kernel_rfl)
theorem ra_v113_ok (b : Pk) (O : (b.V z0.1).Ok) (L : Lt) (hL : LtOk L 2) (hB : Bnd L) : (ra_v113 z0.1 b.w L).Ok (b.V z0.1) := by
  have z := hB.v0
  rcases cls_of hL (r := 0) rfl with ⟨_, c⟩ | ⟨e, _, c⟩ | ⟨e, _, c⟩ | ⟨e, c⟩ | ⟨e, c⟩
  · exact ra_v113_U_ok b O L c
  · omega
  · omega
  · omega
  · omega
noncomputable def rax115 (K : Params → KT) (w : World) (L : Lt) (τ : Nat → Nat) : PySem.Ctx := ctxC (.call (.ref 90) ⟨[.int (bv L 0) (τ 2592)], []⟩) [((rak109 K w L τ), ⟨98, 18, 98, 37⟩), ((funcC (bodyK K w 98) (rae108 K w L τ)), ⟨84, 19, 84, 29⟩), ((funcC (bodyK K w 106) (rae110 K w L τ)), ⟨137, 11, 137, 46⟩), ((funcC (bodyK K w 135) (rae0 K w L τ)), ⟨187, 11, 187, 88⟩), (callerC, ⟨0, 0, 0, 0⟩)]
noncomputable def ra_v115 (K : Params → KT) (w : World) (L : Lt) : FnC := ⟨rax115 K w L, 1305, fun τ => .ret (.int (L.v 0) (τ 2599)), 1306, rac94 K w L, fun _ => []⟩
noncomputable def ra_v115_U_h (K : Params → KT) (w : World) (L : Lt) (c : Cls L 0 65 90 65) : List (Nat × Act) := [(23, S), (20, .bi (cLeT c 65 rfl)), (16, S), (13, .bi (cGeT c 90 rfl)), (4, .bi (cSub c 65 rfl))]
theorem ra_v115_U_t (b : Pk) (L : Lt) (c : Cls L 0 65 90 65) : FnT (b.V z0.1) (ra_v115 z0.1 b.w L) 40 (ra_v115_U_h z0.1 b.w L c) ⟨none, [(2595, .cnt)]⟩ := by intro h₁ R p i τ υ; kernel_rfl
theorem ra_v115_U_ok (b : Pk) (O : (b.V z0.1).Ok) (L : Lt) (c : Cls L 0 65 90 65) : (ra_v115 z0.1 b.w L).Ok (b.V z0.1) := okFn O (ra_v115_U_t b L c) (by kernel_rfl) (by kernel_rfl)
theorem ra_v115_ok (b : Pk) (O : (b.V z0.1).Ok) (L : Lt) (hL : LtOk L 2) (hB : Bnd L) : (ra_v115 z0.1 b.w L).Ok (b.V z0.1) := by
  have z := hB.v0
  rcases cls_of hL (r := 0) rfl with ⟨_, c⟩ | ⟨e, _, c⟩ | ⟨e, _, c⟩ | ⟨e, c⟩ | ⟨e, c⟩
  · exact ra_v115_U_ok b O L c
  · omega
  · omega
  · omega
  · omega
noncomputable def rax117 (K : Params → KT) (w : World) (L : Lt) (τ : Nat → Nat) : PySem.Ctx := ctxC (.call (.ref 90) ⟨[.int (bv L 0) (τ 2620)], []⟩) [((rak109 K w L τ), ⟨98, 18, 98, 37⟩), ((funcC (bodyK K w 98) (rae108 K w L τ)), ⟨84, 19, 84, 29⟩), ((funcC (bodyK K w 106) (rae110 K w L τ)), ⟨137, 11, 137, 46⟩), ((funcC (bodyK K w 135) (rae0 K w L τ)), ⟨187, 11, 187, 88⟩), (callerC, ⟨0, 0, 0, 0⟩)]
noncomputable def ra_v117 (K : Params → KT) (w : World) (L : Lt) : FnC := ⟨rax117 K w L, 1306, fun τ => .ret (.int (L.v 0) (τ 2627)), 1307, rac94 K w L, fun _ => []⟩
noncomputable def ra_v117_U_h (K : Params → KT) (w : World) (L : Lt) (c : Cls L 0 65 90 65) : List (Nat × Act) := [(23, S), (20, .bi (cLeT c 65 rfl)), (16, S), (13, .bi (cGeT c 90 rfl)), (4, .bi (cSub c 65 rfl))]
theorem ra_v117_U_t (b : Pk) (L : Lt) (c : Cls L 0 65 90 65) : FnT (b.V z0.1) (ra_v117 z0.1 b.w L) 40 (ra_v117_U_h z0.1 b.w L c) ⟨none, [(2623, .cnt)]⟩ := by intro h₁ R p i τ υ; kernel_rfl
theorem ra_v117_U_ok (b : Pk) (O : (b.V z0.1).Ok) (L : Lt) (c : Cls L 0 65 90 65) : (ra_v117 z0.1 b.w L).Ok (b.V z0.1) := okFn O (ra_v117_U_t b L c) (by kernel_rfl) (by kernel_rfl)
theorem ra_v117_ok (b : Pk) (O : (b.V z0.1).Ok) (L : Lt) (hL : LtOk L 2) (hB : Bnd L) : (ra_v117 z0.1 b.w L).Ok (b.V z0.1) := by
  have z := hB.v0
  rcases cls_of hL (r := 0) rfl with ⟨_, c⟩ | ⟨e, _, c⟩ | ⟨e, _, c⟩ | ⟨e, c⟩ | ⟨e, c⟩
  · exact ra_v117_U_ok b O L c
  · omega
  · omega
  · omega
  · omega
noncomputable def rax119 (K : Params → KT) (w : World) (L : Lt) (τ : Nat → Nat) : PySem.Ctx := ctxC (.call (.ref 90) ⟨[.int (bv L 1) (τ 2645)], []⟩) [((rak109 K w L τ), ⟨98, 18, 98, 37⟩), ((funcC (bodyK K w 98) (rae108 K w L τ)), ⟨84, 19, 84, 29⟩), ((funcC (bodyK K w 106) (rae110 K w L τ)), ⟨137, 11, 137, 46⟩), ((funcC (bodyK K w 135) (rae0 K w L τ)), ⟨187, 11, 187, 88⟩), (callerC, ⟨0, 0, 0, 0⟩)]
noncomputable def ra_v119 (K : Params → KT) (w : World) (L : Lt) : FnC := ⟨rax119 K w L, 1307, fun τ => .ret (.int (L.v 1) (τ 2654)), 1308, rac94 K w L, fun _ => []⟩
noncomputable def ra_v119_U_h (K : Params → KT) (w : World) (L : Lt) (c : Cls L 1 65 90 65) : List (Nat × Act) := [(23, S), (20, .bi (cLeT c 65 rfl)), (16, S), (13, .bi (cGeT c 90 rfl)), (4, .bi (cSub c 65 rfl))]
theorem ra_v119_U_t (b : Pk) (L : Lt) (c : Cls L 1 65 90 65) : FnT (b.V z0.1) (ra_v119 z0.1 b.w L) 40 (ra_v119_U_h z0.1 b.w L c) ⟨none, [(2650, .cnt)]⟩ := by intro h₁ R p i τ υ; kernel_rfl
theorem ra_v119_U_ok (b : Pk) (O : (b.V z0.1).Ok) (L : Lt) (c : Cls L 1 65 90 65) : (ra_v119 z0.1 b.w L).Ok (b.V z0.1) := okFn O (ra_v119_U_t b L c) (by kernel_rfl) (by kernel_rfl)
noncomputable def ra_v119_Lo_h (K : Params → KT) (w : World) (L : Lt) (c : Cls L 1 97 122 71) : List (Nat × Act) := [(40, S), (37, .bi (cLeT c 65 rfl)), (33, S), (30, .bi (cGeF c 90 rfl)), (23, S), (20, .bi (cLeT c 97 rfl)), (16, S), (13, .bi (cGeT c 122 rfl)), (4, .bi (cSub c 71 rfl))]
theorem ra_v119_Lo_t (b : Pk) (L : Lt) (c : Cls L 1 97 122 71) : FnT (b.V z0.1) (ra_v119 z0.1 b.w L) 57 (ra_v119_Lo_h z0.1 b.w L c) ⟨none, [(2648, .cnt)]⟩ := by intro h₁ R p i τ υ; kernel_rfl
theorem ra_v119_Lo_ok (b : Pk) (O : (b.V z0.1).Ok) (L : Lt) (c : Cls L 1 97 122 71) : (ra_v119 z0.1 b.w L).Ok (b.V z0.1) := okFn O (ra_v119_Lo_t b L c) (by kernel_rfl) (by kernel_rfl)
theorem ra_v119_ok (b : Pk) (O : (b.V z0.1).Ok) (L : Lt) (hL : LtOk L 2) (hB : Bnd L) : (ra_v119 z0.1 b.w L).Ok (b.V z0.1) := by
  have z := hB.v1
  rcases cls_of hL (r := 1) rfl with ⟨_, c⟩ | ⟨e, _, c⟩ | ⟨e, _, c⟩ | ⟨e, c⟩ | ⟨e, c⟩
  · exact ra_v119_U_ok b O L c
  · exact ra_v119_Lo_ok b O L c
  · omega
  · omega
  · omega
noncomputable def rax121 (K : Params → KT) (w : World) (L : Lt) (τ : Nat → Nat) : PySem.Ctx := ctxC (.call (.ref 90) ⟨[.int (bv L 0) (τ 2666)], []⟩) [((rak109 K w L τ), ⟨98, 18, 98, 37⟩), ((funcC (bodyK K w 98) (rae108 K w L τ)), ⟨84, 19, 84, 29⟩), ((funcC (bodyK K w 106) (rae110 K w L τ)), ⟨137, 11, 137, 46⟩), ((funcC (bodyK K w 135) (rae0 K w L τ)), ⟨187, 11, 187, 88⟩), (callerC, ⟨0, 0, 0, 0⟩)]
noncomputable def ra_v121 (K : Params → KT) (w : World) (L : Lt) : FnC := ⟨rax121 K w L, 1308, fun τ => .ret (.int (L.v 0) (τ 2673)), 1309, rac94 K w L, fun _ => []⟩
noncomputable def ra_v121_U_h (K : Params → KT) (w : World) (L : Lt) (c : Cls L 0 65 90 65) : List (Nat × Act) := [(23, S), (20, .bi (cLeT c 65 rfl)), (16, S), (13, .bi (cGeT c 90 rfl)), (4, .bi (cSub c 65 rfl))]
theorem ra_v121_U_t (b : Pk) (L : Lt) (c : Cls L 0 65 90 65) : FnT (b.V z0.1) (ra_v121 z0.1 b.w L) 40 (ra_v121_U_h z0.1 b.w L c) ⟨none, [(2669, .cnt)]⟩ := by intro h₁ R p i τ υ; kernel_rfl
theorem ra_v121_U_ok (b : Pk) (O : (b.V z0.1).Ok) (L : Lt) (c : Cls L 0 65 90 65) : (ra_v121 z0.1 b.w L).Ok (b.V z0.1) := okFn O (ra_v121_U_t b L c) (by kernel_rfl) (by kernel_rfl)
theorem ra_v121_ok (b : Pk) (O : (b.V z0.1).Ok) (L : Lt) (hL : LtOk L 2) (hB : Bnd L) : (ra_v121 z0.1 b.w L).Ok (b.V z0.1) := by
  have z := hB.v0
  rcases cls_of hL (r := 0) rfl with ⟨_, c⟩ | ⟨e, _, c⟩ | ⟨e, _, c⟩ | ⟨e, c⟩ | ⟨e, c⟩
  · exact ra_v121_U_ok b O L c
  · omega
  · omega
  · omega
  · omega
noncomputable def rax123 (K : Params → KT) (w : World) (L : Lt) (τ : Nat → Nat) : PySem.Ctx := ctxC (.call (.ref 90) ⟨[.int (bv L 0) (τ 2693)], []⟩) [((rak109 K w L τ), ⟨98, 18, 98, 37⟩), ((funcC (bodyK K w 98) (rae108 K w L τ)), ⟨84, 19, 84, 29⟩), ((funcC (bodyK K w 106) (rae110 K w L τ)), ⟨137, 11, 137, 46⟩), ((funcC (bodyK K w 135) (rae0 K w L τ)), ⟨187, 11, 187, 88⟩), (callerC, ⟨0, 0, 0, 0⟩)]
noncomputable def ra_v123 (K : Params → KT) (w : World) (L : Lt) : FnC := ⟨rax123 K w L, 1309, fun τ => .ret (.int (L.v 0) (τ 2700)), 1310, rac94 K w L, fun _ => []⟩
noncomputable def ra_v123_U_h (K : Params → KT) (w : World) (L : Lt) (c : Cls L 0 65 90 65) : List (Nat × Act) := [(23, S), (20, .bi (cLeT c 65 rfl)), (16, S), (13, .bi (cGeT c 90 rfl)), (4, .bi (cSub c 65 rfl))]
theorem ra_v123_U_t (b : Pk) (L : Lt) (c : Cls L 0 65 90 65) : FnT (b.V z0.1) (ra_v123 z0.1 b.w L) 40 (ra_v123_U_h z0.1 b.w L c) ⟨none, [(2696, .cnt)]⟩ := by intro h₁ R p i τ υ; kernel_rfl
theorem ra_v123_U_ok (b : Pk) (O : (b.V z0.1).Ok) (L : Lt) (c : Cls L 0 65 90 65) : (ra_v123 z0.1 b.w L).Ok (b.V z0.1) := okFn O (ra_v123_U_t b L c) (by kernel_rfl) (by kernel_rfl)
theorem ra_v123_ok (b : Pk) (O : (b.V z0.1).Ok) (L : Lt) (hL : LtOk L 2) (hB : Bnd L) : (ra_v123 z0.1 b.w L).Ok (b.V z0.1) := by
  have z := hB.v0
  rcases cls_of hL (r := 0) rfl with ⟨_, c⟩ | ⟨e, _, c⟩ | ⟨e, _, c⟩ | ⟨e, c⟩ | ⟨e, c⟩
  · exact ra_v123_U_ok b O L c
  · omega
  · omega
  · omega
  · omega
noncomputable def rax125 (K : Params → KT) (w : World) (L : Lt) (τ : Nat → Nat) : PySem.Ctx := ctxC (.call (.ref 90) ⟨[.int (bv L 1) (τ 2721)], []⟩) [((rak109 K w L τ), ⟨98, 18, 98, 37⟩), ((funcC (bodyK K w 98) (rae108 K w L τ)), ⟨84, 19, 84, 29⟩), ((funcC (bodyK K w 106) (rae110 K w L τ)), ⟨137, 11, 137, 46⟩), ((funcC (bodyK K w 135) (rae0 K w L τ)), ⟨187, 11, 187, 88⟩), (callerC, ⟨0, 0, 0, 0⟩)]
noncomputable def ra_v125 (K : Params → KT) (w : World) (L : Lt) : FnC := ⟨rax125 K w L, 1310, fun τ => .ret (.int (L.v 1) (τ 2730)), 1311, rac94 K w L, fun _ => []⟩
noncomputable def ra_v125_U_h (K : Params → KT) (w : World) (L : Lt) (c : Cls L 1 65 90 65) : List (Nat × Act) := [(23, S), (20, .bi (cLeT c 65 rfl)), (16, S), (13, .bi (cGeT c 90 rfl)), (4, .bi (cSub c 65 rfl))]
theorem ra_v125_U_t (b : Pk) (L : Lt) (c : Cls L 1 65 90 65) : FnT (b.V z0.1) (ra_v125 z0.1 b.w L) 40 (ra_v125_U_h z0.1 b.w L c) ⟨none, [(2726, .cnt)]⟩ := by intro h₁ R p i τ υ; kernel_rfl
theorem ra_v125_U_ok (b : Pk) (O : (b.V z0.1).Ok) (L : Lt) (c : Cls L 1 65 90 65) : (ra_v125 z0.1 b.w L).Ok (b.V z0.1) := okFn O (ra_v125_U_t b L c) (by kernel_rfl) (by kernel_rfl)
noncomputable def ra_v125_Lo_h (K : Params → KT) (w : World) (L : Lt) (c : Cls L 1 97 122 71) : List (Nat × Act) := [(40, S), (37, .bi (cLeT c 65 rfl)), (33, S), (30, .bi (cGeF c 90 rfl)), (23, S), (20, .bi (cLeT c 97 rfl)), (16, S), (13, .bi (cGeT c 122 rfl)), (4, .bi (cSub c 71 rfl))]
theorem ra_v125_Lo_t (b : Pk) (L : Lt) (c : Cls L 1 97 122 71) : FnT (b.V z0.1) (ra_v125 z0.1 b.w L) 57 (ra_v125_Lo_h z0.1 b.w L c) ⟨none, [(2724, .cnt)]⟩ := by intro h₁ R p i τ υ; kernel_rfl
theorem ra_v125_Lo_ok (b : Pk) (O : (b.V z0.1).Ok) (L : Lt) (c : Cls L 1 97 122 71) : (ra_v125 z0.1 b.w L).Ok (b.V z0.1) := okFn O (ra_v125_Lo_t b L c) (by kernel_rfl) (by kernel_rfl)
theorem ra_v125_ok (b : Pk) (O : (b.V z0.1).Ok) (L : Lt) (hL : LtOk L 2) (hB : Bnd L) : (ra_v125 z0.1 b.w L).Ok (b.V z0.1) := by
  have z := hB.v1
  rcases cls_of hL (r := 1) rfl with ⟨_, c⟩ | ⟨e, _, c⟩ | ⟨e, _, c⟩ | ⟨e, c⟩ | ⟨e, c⟩
  · exact ra_v125_U_ok b O L c
  · exact ra_v125_Lo_ok b O L c
  · omega
  · omega
  · omega
noncomputable def rax127 (K : Params → KT) (w : World) (L : Lt) (τ : Nat → Nat) : PySem.Ctx := ctxC (.call (.ref 90) ⟨[.int (bv L 1) (τ 2748)], []⟩) [((rak109 K w L τ), ⟨98, 18, 98, 37⟩), ((funcC (bodyK K w 98) (rae108 K w L τ)), ⟨84, 19, 84, 29⟩), ((funcC (bodyK K w 106) (rae110 K w L τ)), ⟨137, 11, 137, 46⟩), ((funcC (bodyK K w 135) (rae0 K w L τ)), ⟨187, 11, 187, 88⟩), (callerC, ⟨0, 0, 0, 0⟩)]
noncomputable def ra_v127 (K : Params → KT) (w : World) (L : Lt) : FnC := ⟨rax127 K w L, 1311, fun τ => .ret (.int (L.v 1) (τ 2757)), 1312, rac94 K w L, fun _ => []⟩
noncomputable def ra_v127_U_h (K : Params → KT) (w : World) (L : Lt) (c : Cls L 1 65 90 65) : List (Nat × Act) := [(23, S), (20, .bi (cLeT c 65 rfl)), (16, S), (13, .bi (cGeT c 90 rfl)), (4, .bi (cSub c 65 rfl))]
theorem ra_v127_U_t (b : Pk) (L : Lt) (c : Cls L 1 65 90 65) : FnT (b.V z0.1) (ra_v127 z0.1 b.w L) 40 (ra_v127_U_h z0.1 b.w L c) ⟨none, [(2753, .cnt)]⟩ := by intro h₁ R p i τ υ; kernel_rfl
theorem ra_v127_U_ok (b : Pk) (O : (b.V z0.1).Ok) (L : Lt) (c : Cls L 1 65 90 65) : (ra_v127 z0.1 b.w L).Ok (b.V z0.1) := okFn O (ra_v127_U_t b L c) (by kernel_rfl) (by kernel_rfl)
noncomputable def ra_v127_Lo_h (K : Params → KT) (w : World) (L : Lt) (c : Cls L 1 97 122 71) : List (Nat × Act) := [(40, S), (37, .bi (cLeT c 65 rfl)), (33, S), (30, .bi (cGeF c 90 rfl)), (23, S), (20, .bi (cLeT c 97 rfl)), (16, S), (13, .bi (cGeT c 122 rfl)), (4, .bi (cSub c 71 rfl))]
theorem ra_v127_Lo_t (b : Pk) (L : Lt) (c : Cls L 1 97 122 71) : FnT (b.V z0.1) (ra_v127 z0.1 b.w L) 57 (ra_v127_Lo_h z0.1 b.w L c) ⟨none, [(2751, .cnt)]⟩ := by intro h₁ R p i τ υ; kernel_rfl
theorem ra_v127_Lo_ok (b : Pk) (O : (b.V z0.1).Ok) (L : Lt) (c : Cls L 1 97 122 71) : (ra_v127 z0.1 b.w L).Ok (b.V z0.1) := okFn O (ra_v127_Lo_t b L c) (by kernel_rfl) (by kernel_rfl)
theorem ra_v127_ok (b : Pk) (O : (b.V z0.1).Ok) (L : Lt) (hL : LtOk L 2) (hB : Bnd L) : (ra_v127 z0.1 b.w L).Ok (b.V z0.1) := by
  have z := hB.v1
  rcases cls_of hL (r := 1) rfl with ⟨_, c⟩ | ⟨e, _, c⟩ | ⟨e, _, c⟩ | ⟨e, c⟩ | ⟨e, c⟩
  · exact ra_v127_U_ok b O L c
  · exact ra_v127_Lo_ok b O L c
  · omega
  · omega
  · omega
noncomputable def rax129 (K : Params → KT) (w : World) (L : Lt) (τ : Nat → Nat) : PySem.Ctx := ctxC (.call (.ref 90) ⟨[.int (bv L 0) (τ 2769)], []⟩) [((rak109 K w L τ), ⟨98, 18, 98, 37⟩), ((funcC (bodyK K w 98) (rae108 K w L τ)), ⟨84, 19, 84, 29⟩), ((funcC (bodyK K w 106) (rae110 K w L τ)), ⟨137, 11, 137, 46⟩), ((funcC (bodyK K w 135) (rae0 K w L τ)), ⟨187, 11, 187, 88⟩), (callerC, ⟨0, 0, 0, 0⟩)]
noncomputable def ra_v129 (K : Params → KT) (w : World) (L : Lt) : FnC := ⟨rax129 K w L, 1312, fun τ => .ret (.int (L.v 0) (τ 2776)), 1313, rac94 K w L, fun _ => []⟩
noncomputable def ra_v129_U_h (K : Params → KT) (w : World) (L : Lt) (c : Cls L 0 65 90 65) : List (Nat × Act) := [(23, S), (20, .bi (cLeT c 65 rfl)), (16, S), (13, .bi (cGeT c 90 rfl)), (4, .bi (cSub c 65 rfl))]
theorem ra_v129_U_t (b : Pk) (L : Lt) (c : Cls L 0 65 90 65) : FnT (b.V z0.1) (ra_v129 z0.1 b.w L) 40 (ra_v129_U_h z0.1 b.w L c) ⟨none, [(2772, .cnt)]⟩ := by intro h₁ R p i τ υ; kernel_rfl
theorem ra_v129_U_ok (b : Pk) (O : (b.V z0.1).Ok) (L : Lt) (c : Cls L 0 65 90 65) : (ra_v129 z0.1 b.w L).Ok (b.V z0.1) := okFn O (ra_v129_U_t b L c) (by kernel_rfl) (by kernel_rfl)
theorem ra_v129_ok (b : Pk) (O : (b.V z0.1).Ok) (L : Lt) (hL : LtOk L 2) (hB : Bnd L) : (ra_v129 z0.1 b.w L).Ok (b.V z0.1) := by
  have z := hB.v0
  rcases cls_of hL (r := 0) rfl with ⟨_, c⟩ | ⟨e, _, c⟩ | ⟨e, _, c⟩ | ⟨e, c⟩ | ⟨e, c⟩
  · exact ra_v129_U_ok b O L c
  · omega
  · omega
  · omega
  · omega
noncomputable def rax131 (K : Params → KT) (w : World) (L : Lt) (τ : Nat → Nat) : PySem.Ctx := ctxC (.call (.ref 90) ⟨[.int (bv L 1) (τ 2796)], []⟩) [((rak109 K w L τ), ⟨98, 18, 98, 37⟩), ((funcC (bodyK K w 98) (rae108 K w L τ)), ⟨84, 19, 84, 29⟩), ((funcC (bodyK K w 106) (rae110 K w L τ)), ⟨137, 11, 137, 46⟩), ((funcC (bodyK K w 135) (rae0 K w L τ)), ⟨187, 11, 187, 88⟩), (callerC, ⟨0, 0, 0, 0⟩)]
noncomputable def ra_v131 (K : Params → KT) (w : World) (L : Lt) : FnC := ⟨rax131 K w L, 1313, fun τ => .ret (.int (L.v 1) (τ 2805)), 1314, rac94 K w L, fun _ => []⟩
noncomputable def ra_v131_U_h (K : Params → KT) (w : World) (L : Lt) (c : Cls L 1 65 90 65) : List (Nat × Act) := [(23, S), (20, .bi (cLeT c 65 rfl)), (16, S), (13, .bi (cGeT c 90 rfl)), (4, .bi (cSub c 65 rfl))]
theorem ra_v131_U_t (b : Pk) (L : Lt) (c : Cls L 1 65 90 65) : FnT (b.V z0.1) (ra_v131 z0.1 b.w L) 40 (ra_v131_U_h z0.1 b.w L c) ⟨none, [(2801, .cnt)]⟩ := by intro h₁ R p i τ υ; kernel_rfl
theorem ra_v131_U_ok (b : Pk) (O : (b.V z0.1).Ok) (L : Lt) (c : Cls L 1 65 90 65) : (ra_v131 z0.1 b.w L).Ok (b.V z0.1) := okFn O (ra_v131_U_t b L c) (by kernel_rfl) (by kernel_rfl)
noncomputable def ra_v131_Lo_h (K : Params → KT) (w : World) (L : Lt) (c : Cls L 1 97 122 71) : List (Nat × Act) := [(40, S), (37, .bi (cLeT c 65 rfl)), (33, S), (30, .bi (cGeF c 90 rfl)), (23, S), (20, .bi (cLeT c 97 rfl)), (16, S), (13, .bi (cGeT c 122 rfl)), (4, .bi (cSub c 71 rfl))]
theorem ra_v131_Lo_t (b : Pk) (L : Lt) (c : Cls L 1 97 122 71) : FnT (b.V z0.1) (ra_v131 z0.1 b.w L) 57 (ra_v131_Lo_h z0.1 b.w L c) ⟨none, [(2799, .cnt)]⟩ := by intro h₁ R p i τ υ; kernel_rfl
theorem ra_v131_Lo_ok (b : Pk) (O : (b.V z0.1).Ok) (L : Lt) (c : Cls L 1 97 122 71) : (ra_v131 z0.1 b.w L).Ok (b.V z0.1) := okFn O (ra_v131_Lo_t b L c) (by kernel_rfl) (by kernel_rfl)
theorem ra_v131_ok (b : Pk) (O : (b.V z0.1).Ok) (L : Lt) (hL : LtOk L 2) (hB : Bnd L) : (ra_v131 z0.1 b.w L).Ok (b.V z0.1) := by
  have z := hB.v1
  rcases cls_of hL (r := 1) rfl with ⟨_, c⟩ | ⟨e, _, c⟩ | ⟨e, _, c⟩ | ⟨e, c⟩ | ⟨e, c⟩
  · exact ra_v131_U_ok b O L c
  · exact ra_v131_Lo_ok b O L c
  · omega
  · omega
  · omega
noncomputable def rax133 (K : Params → KT) (w : World) (L : Lt) (τ : Nat → Nat) : PySem.Ctx := ctxC (.call (.ref 90) ⟨[.int (bv L 0) (τ 2826)], []⟩) [((rak109 K w L τ), ⟨98, 18, 98, 37⟩), ((funcC (bodyK K w 98) (rae108 K w L τ)), ⟨84, 19, 84, 29⟩), ((funcC (bodyK K w 106) (rae110 K w L τ)), ⟨137, 11, 137, 46⟩), ((funcC (bodyK K w 135) (rae0 K w L τ)), ⟨187, 11, 187, 88⟩), (callerC, ⟨0, 0, 0, 0⟩)]
noncomputable def ra_v133 (K : Params → KT) (w : World) (L : Lt) : FnC := ⟨rax133 K w L, 1314, fun τ => .ret (.int (L.v 0) (τ 2833)), 1315, rac94 K w L, fun _ => []⟩
noncomputable def ra_v133_U_h (K : Params → KT) (w : World) (L : Lt) (c : Cls L 0 65 90 65) : List (Nat × Act) := [(23, S), (20, .bi (cLeT c 65 rfl)), (16, S), (13, .bi (cGeT c 90 rfl)), (4, .bi (cSub c 65 rfl))]
theorem ra_v133_U_t (b : Pk) (L : Lt) (c : Cls L 0 65 90 65) : FnT (b.V z0.1) (ra_v133 z0.1 b.w L) 40 (ra_v133_U_h z0.1 b.w L c) ⟨none, [(2829, .cnt)]⟩ := by intro h₁ R p i τ υ; kernel_rfl
theorem ra_v133_U_ok (b : Pk) (O : (b.V z0.1).Ok) (L : Lt) (c : Cls L 0 65 90 65) : (ra_v133 z0.1 b.w L).Ok (b.V z0.1) := okFn O (ra_v133_U_t b L c) (by kernel_rfl) (by kernel_rfl)
theorem ra_v133_ok (b : Pk) (O : (b.V z0.1).Ok) (L : Lt) (hL : LtOk L 2) (hB : Bnd L) : (ra_v133 z0.1 b.w L).Ok (b.V z0.1) := by
  have z := hB.v0
  rcases cls_of hL (r := 0) rfl with ⟨_, c⟩ | ⟨e, _, c⟩ | ⟨e, _, c⟩ | ⟨e, c⟩ | ⟨e, c⟩
  · exact ra_v133_U_ok b O L c
  · omega
  · omega
  · omega
  · omega
noncomputable def rax135 (K : Params → KT) (w : World) (L : Lt) (τ : Nat → Nat) : PySem.Ctx := ctxC (.call (.ref 90) ⟨[.int (bv L 1) (τ 2851)], []⟩) [((rak109 K w L τ), ⟨98, 18, 98, 37⟩), ((funcC (bodyK K w 98) (rae108 K w L τ)), ⟨84, 19, 84, 29⟩), ((funcC (bodyK K w 106) (rae110 K w L τ)), ⟨137, 11, 137, 46⟩), ((funcC (bodyK K w 135) (rae0 K w L τ)), ⟨187, 11, 187, 88⟩), (callerC, ⟨0, 0, 0, 0⟩)]
noncomputable def ra_v135 (K : Params → KT) (w : World) (L : Lt) : FnC := ⟨rax135 K w L, 1315, fun τ => .ret (.int (L.v 1) (τ 2860)), 1316, rac94 K w L, fun _ => []⟩
noncomputable def ra_v135_U_h (K : Params → KT) (w : World) (L : Lt) (c : Cls L 1 65 90 65) : List (Nat × Act) := [(23, S), (20, .bi (cLeT c 65 rfl)), (16, S), (13, .bi (cGeT c 90 rfl)), (4, .bi (cSub c 65 rfl))]
theorem ra_v135_U_t (b : Pk) (L : Lt) (c : Cls L 1 65 90 65) : FnT (b.V z0.1) (ra_v135 z0.1 b.w L) 40 (ra_v135_U_h z0.1 b.w L c) ⟨none, [(2856, .cnt)]⟩ := by intro h₁ R p i τ υ; kernel_rfl
theorem ra_v135_U_ok (b : Pk) (O : (b.V z0.1).Ok) (L : Lt) (c : Cls L 1 65 90 65) : (ra_v135 z0.1 b.w L).Ok (b.V z0.1) := okFn O (ra_v135_U_t b L c) (by kernel_rfl) (by kernel_rfl)
noncomputable def ra_v135_Lo_h (K : Params → KT) (w : World) (L : Lt) (c : Cls L 1 97 122 71) : List (Nat × Act) := [(40, S), (37, .bi (cLeT c 65 rfl)), (33, S), (30, .bi (cGeF c 90 rfl)), (23, S), (20, .bi (cLeT c 97 rfl)), (16, S), (13, .bi (cGeT c 122 rfl)), (4, .bi (cSub c 71 rfl))]
theorem ra_v135_Lo_t (b : Pk) (L : Lt) (c : Cls L 1 97 122 71) : FnT (b.V z0.1) (ra_v135 z0.1 b.w L) 57 (ra_v135_Lo_h z0.1 b.w L c) ⟨none, [(2854, .cnt)]⟩ := by intro h₁ R p i τ υ; kernel_rfl
theorem ra_v135_Lo_ok (b : Pk) (O : (b.V z0.1).Ok) (L : Lt) (c : Cls L 1 97 122 71) : (ra_v135 z0.1 b.w L).Ok (b.V z0.1) := okFn O (ra_v135_Lo_t b L c) (by kernel_rfl) (by kernel_rfl)
theorem ra_v135_ok (b : Pk) (O : (b.V z0.1).Ok) (L : Lt) (hL : LtOk L 2) (hB : Bnd L) : (ra_v135 z0.1 b.w L).Ok (b.V z0.1) := by
  have z := hB.v1
  rcases cls_of hL (r := 1) rfl with ⟨_, c⟩ | ⟨e, _, c⟩ | ⟨e, _, c⟩ | ⟨e, c⟩ | ⟨e, c⟩
  · exact ra_v135_U_ok b O L c
  · exact ra_v135_Lo_ok b O L c
  · omega
  · omega
  · omega
noncomputable def rax137 (K : Params → KT) (w : World) (L : Lt) (τ : Nat → Nat) : PySem.Ctx := ctxC (.call (.ref 90) ⟨[.int (bv L 1) (τ 2872)], []⟩) [((rak109 K w L τ), ⟨98, 18, 98, 37⟩), ((funcC (bodyK K w 98) (rae108 K w L τ)), ⟨84, 19, 84, 29⟩), ((funcC (bodyK K w 106) (rae110 K w L τ)), ⟨137, 11, 137, 46⟩), ((funcC (bodyK K w 135) (rae0 K w L τ)), ⟨187, 11, 187, 88⟩), (callerC, ⟨0, 0, 0, 0⟩)]
noncomputable def ra_v137 (K : Params → KT) (w : World) (L : Lt) : FnC := ⟨rax137 K w L, 1316, fun τ => .ret (.int (L.v 1) (τ 2881)), 1317, rac94 K w L, fun _ => []⟩
noncomputable def ra_v137_U_h (K : Params → KT) (w : World) (L : Lt) (c : Cls L 1 65 90 65) : List (Nat × Act) := [(23, S), (20, .bi (cLeT c 65 rfl)), (16, S), (13, .bi (cGeT c 90 rfl)), (4, .bi (cSub c 65 rfl))]
theorem ra_v137_U_t (b : Pk) (L : Lt) (c : Cls L 1 65 90 65) : FnT (b.V z0.1) (ra_v137 z0.1 b.w L) 40 (ra_v137_U_h z0.1 b.w L c) ⟨none, [(2877, .cnt)]⟩ := by intro h₁ R p i τ υ; kernel_rfl
theorem ra_v137_U_ok (b : Pk) (O : (b.V z0.1).Ok) (L : Lt) (c : Cls L 1 65 90 65) : (ra_v137 z0.1 b.w L).Ok (b.V z0.1) := okFn O (ra_v137_U_t b L c) (by kernel_rfl) (by kernel_rfl)
noncomputable def ra_v137_Lo_h (K : Params → KT) (w : World) (L : Lt) (c : Cls L 1 97 122 71) : List (Nat × Act) := [(40, S), (37, .bi (cLeT c 65 rfl)), (33, S), (30, .bi (cGeF c 90 rfl)), (23, S), (20, .bi (cLeT c 97 rfl)), (16, S), (13, .bi (cGeT c 122 rfl)), (4, .bi (cSub c 71 rfl))]
theorem ra_v137_Lo_t (b : Pk) (L : Lt) (c : Cls L 1 97 122 71) : FnT (b.V z0.1) (ra_v137 z0.1 b.w L) 57 (ra_v137_Lo_h z0.1 b.w L c) ⟨none, [(2875, .cnt)]⟩ := by intro h₁ R p i τ υ; kernel_rfl
theorem ra_v137_Lo_ok (b : Pk) (O : (b.V z0.1).Ok) (L : Lt) (c : Cls L 1 97 122 71) : (ra_v137 z0.1 b.w L).Ok (b.V z0.1) := okFn O (ra_v137_Lo_t b L c) (by kernel_rfl) (by kernel_rfl)
theorem ra_v137_ok (b : Pk) (O : (b.V z0.1).Ok) (L : Lt) (hL : LtOk L 2) (hB : Bnd L) : (ra_v137 z0.1 b.w L).Ok (b.V z0.1) := by
  have z := hB.v1
  rcases cls_of hL (r := 1) rfl with ⟨_, c⟩ | ⟨e, _, c⟩ | ⟨e, _, c⟩ | ⟨e, c⟩ | ⟨e, c⟩
  · exact ra_v137_U_ok b O L c
  · exact ra_v137_Lo_ok b O L c
  · omega
  · omega
  · omega
noncomputable def rax139 (K : Params → KT) (w : World) (L : Lt) (τ : Nat → Nat) : PySem.Ctx := ctxC (.call (.ref 90) ⟨[.int (bv L 1) (τ 2901)], []⟩) [((rak109 K w L τ), ⟨98, 18, 98, 37⟩), ((funcC (bodyK K w 98) (rae108 K w L τ)), ⟨84, 19, 84, 29⟩), ((funcC (bodyK K w 106) (rae110 K w L τ)), ⟨137, 11, 137, 46⟩), ((funcC (bodyK K w 135) (rae0 K w L τ)), ⟨187, 11, 187, 88⟩), (callerC, ⟨0, 0, 0, 0⟩)]
noncomputable def ra_v139 (K : Params → KT) (w : World) (L : Lt) : FnC := ⟨rax139 K w L, 1317, fun τ => .ret (.int (L.v 1) (τ 2910)), 1318, rac94 K w L, fun _ => []⟩
noncomputable def ra_v139_U_h (K : Params → KT) (w : World) (L : Lt) (c : Cls L 1 65 90 65) : List (Nat × Act) := [(23, S), (20, .bi (cLeT c 65 rfl)), (16, S), (13, .bi (cGeT c 90 rfl)), (4, .bi (cSub c 65 rfl))]
theorem ra_v139_U_t (b : Pk) (L : Lt) (c : Cls L 1 65 90 65) : FnT (b.V z0.1) (ra_v139 z0.1 b.w L) 40 (ra_v139_U_h z0.1 b.w L c) ⟨none, [(2906, .cnt)]⟩ := by intro h₁ R p i τ υ; kernel_rfl
theorem ra_v139_U_ok (b : Pk) (O : (b.V z0.1).Ok) (L : Lt) (c : Cls L 1 65 90 65) : (ra_v139 z0.1 b.w L).Ok (b.V z0.1) := okFn O (ra_v139_U_t b L c) (by kernel_rfl) (by kernel_rfl)
noncomputable def ra_v139_Lo_h (K : Params → KT) (w : World) (L : Lt) (c : Cls L 1 97 122 71) : List (Nat × Act) := [(40, S), (37, .bi (cLeT c 65 rfl)), (33, S), (30, .bi (cGeF c 90 rfl)), (23, S), (20, .bi (cLeT c 97 rfl)), (16, S), (13, .bi (cGeT c 122 rfl)), (4, .bi (cSub c 71 rfl))]
theorem ra_v139_Lo_t (b : Pk) (L : Lt) (c : Cls L 1 97 122 71) : FnT (b.V z0.1) (ra_v139 z0.1 b.w L) 57 (ra_v139_Lo_h z0.1 b.w L c) ⟨none, [(2904, .cnt)]⟩ := by intro h₁ R p i τ υ; kernel_rfl
theorem ra_v139_Lo_ok (b : Pk) (O : (b.V z0.1).Ok) (L : Lt) (c : Cls L 1 97 122 71) : (ra_v139 z0.1 b.w L).Ok (b.V z0.1) := okFn O (ra_v139_Lo_t b L c) (by kernel_rfl) (by kernel_rfl)
theorem ra_v139_ok (b : Pk) (O : (b.V z0.1).Ok) (L : Lt) (hL : LtOk L 2) (hB : Bnd L) : (ra_v139 z0.1 b.w L).Ok (b.V z0.1) := by
  have z := hB.v1
  rcases cls_of hL (r := 1) rfl with ⟨_, c⟩ | ⟨e, _, c⟩ | ⟨e, _, c⟩ | ⟨e, c⟩ | ⟨e, c⟩
  · exact ra_v139_U_ok b O L c
  · exact ra_v139_Lo_ok b O L c
  · omega
  · omega
  · omega
noncomputable def rax141 (K : Params → KT) (w : World) (L : Lt) (τ : Nat → Nat) : PySem.Ctx := ctxC (.call (.ref 90) ⟨[.int (bv L 1) (τ 2931)], []⟩) [((rak109 K w L τ), ⟨98, 18, 98, 37⟩), ((funcC (bodyK K w 98) (rae108 K w L τ)), ⟨84, 19, 84, 29⟩), ((funcC (bodyK K w 106) (rae110 K w L τ)), ⟨137, 11, 137, 46⟩), ((funcC (bodyK K w 135) (rae0 K w L τ)), ⟨187, 11, 187, 88⟩), (callerC, ⟨0, 0, 0, 0⟩)]
noncomputable def ra_v141 (K : Params → KT) (w : World) (L : Lt) : FnC := ⟨rax141 K w L, 1318, fun τ => .ret (.int (L.v 1) (τ 2940)), 1319, rac94 K w L, fun _ => []⟩
noncomputable def ra_v141_U_h (K : Params → KT) (w : World) (L : Lt) (c : Cls L 1 65 90 65) : List (Nat × Act) := [(23, S), (20, .bi (cLeT c 65 rfl)), (16, S), (13, .bi (cGeT c 90 rfl)), (4, .bi (cSub c 65 rfl))]
theorem ra_v141_U_t (b : Pk) (L : Lt) (c : Cls L 1 65 90 65) : FnT (b.V z0.1) (ra_v141 z0.1 b.w L) 40 (ra_v141_U_h z0.1 b.w L c) ⟨none, [(2936, .cnt)]⟩ := by intro h₁ R p i τ υ; kernel_rfl
theorem ra_v141_U_ok (b : Pk) (O : (b.V z0.1).Ok) (L : Lt) (c : Cls L 1 65 90 65) : (ra_v141 z0.1 b.w L).Ok (b.V z0.1) := okFn O (ra_v141_U_t b L c) (by kernel_rfl) (by kernel_rfl)
noncomputable def ra_v141_Lo_h (K : Params → KT) (w : World) (L : Lt) (c : Cls L 1 97 122 71) : List (Nat × Act) := [(40, S), (37, .bi (cLeT c 65 rfl)), (33, S), (30, .bi (cGeF c 90 rfl)), (23, S), (20, .bi (cLeT c 97 rfl)), (16, S), (13, .bi (cGeT c 122 rfl)), (4, .bi (cSub c 71 rfl))]
theorem ra_v141_Lo_t (b : Pk) (L : Lt) (c : Cls L 1 97 122 71) : FnT (b.V z0.1) (ra_v141 z0.1 b.w L) 57 (ra_v141_Lo_h z0.1 b.w L c) ⟨none, [(2934, .cnt)]⟩ := by intro h₁ R p i τ υ; kernel_rfl
theorem ra_v141_Lo_ok (b : Pk) (O : (b.V z0.1).Ok) (L : Lt) (c : Cls L 1 97 122 71) : (ra_v141 z0.1 b.w L).Ok (b.V z0.1) := okFn O (ra_v141_Lo_t b L c) (by kernel_rfl) (by kernel_rfl)
theorem ra_v141_ok (b : Pk) (O : (b.V z0.1).Ok) (L : Lt) (hL : LtOk L 2) (hB : Bnd L) : (ra_v141 z0.1 b.w L).Ok (b.V z0.1) := by
  have z := hB.v1
  rcases cls_of hL (r := 1) rfl with ⟨_, c⟩ | ⟨e, _, c⟩ | ⟨e, _, c⟩ | ⟨e, c⟩ | ⟨e, c⟩
  · exact ra_v141_U_ok b O L c
  · exact ra_v141_Lo_ok b O L c
  · omega
  · omega
  · omega
noncomputable def ra_top_h (K : Params → KT) (w : World) (L : Lt) (hL : LtOk L 2) (hH : HdOk L 0) (vs : List Value) (h63 : vs.length ≤ 63) : List (Nat × Act) := [(7649, .repl (rSlc vs h63)), (7642, .fn (ra_sum K w L vs) ⟨none, [(361, .cnt)]⟩), (7604, .bi (bMod L.h 5 0 (by decide) hH.m)), (7586, S), (7521, .bi (bDiv L.h 5 (L.h / 5) (by decide) (by decide) rfl)), (7514, .bi (bMod (L.h / 5) 16 (L.h / 5 % 16) (by decide) rfl)), (7508, .bi (bAdd 3 (L.h / 5 % 16) (L.v 0) hH.v0)), (7472, S), (7461, .ctr (ra_vals K w L) ⟨none, [(369, .un 7642), (363, .tau 7642), (361, .cnt)]⟩), (7444, S), (7434, .comp .list), (7408, .bi (biGet hL 0 rfl)), (7372, .bi (biGet hL 1 rfl)), (7244, S), (7202, S), (7163, S), (7152, .ctr (ra_lm17_0 K w L) ⟨some 7461, [(403, .un 7461)]⟩), (7119, S), (7080, S), (7069, .ctr (ra_lm36_0 K w L) ⟨some 7152, [(450, .un 7152)]⟩), (7036, S), (7000, S), (6961, S), (6950, .ctr (ra_lm47_0 K w L) ⟨some 7069, [(548, .un 7069)]⟩), (6887, S), (6879, S), (6873, S), (6866, S), (6858, S), (6852, S), (6845, S), (6837, S), (6831, S), (6823, S), (6815, S), (6809, S), (6802, S), (6796, Q), (6788, S), (6782, Q), (6779, S), (6773, S), (6766, S), (6760, Q), (6752, S), (6746, Q), (6743, S), (6737, S), (6730, S), (6724, Q), (6723, Q), (6720, S), (6714, S), (6707, S), (6701, Q), (6698, S), (6692, S), (6685, S), (6677, S), (6671, S), (6664, S), (6658, Q), (6657, Q), (6639, S), (6631, .ctr (ra_row73_0 K w L) ⟨some 6950, [(1245, .un 6950)]⟩), (6621, S), (6611, .comp .list), (6585, .bi (biGet hL 0 rfl)), (6549, .bi (biGet hL 0 rfl)), (6513, .bi (biGet hL 0 rfl)), (6477, .bi (biGet hL 0 rfl)), (6441, .bi (biGet hL 1 rfl)), (6405, .bi (biGet hL 0 rfl)), (6369, .bi (biGet hL 0 rfl)), (6333, .bi (biGet hL 1 rfl)), (6297, .bi (biGet hL 1 rfl)), (6261, .bi (biGet hL 0 rfl)), (6225, .bi (biGet hL 1 rfl)), (6189, .bi (biGet hL 0 rfl)), (6153, .bi (biGet hL 1 rfl)), (6117, .bi (biGet hL 1 rfl)), (6081, .bi (biGet hL 1 rfl)), (6045, .bi (biGet hL 1 rfl)), (5937, .ctr (ra_grow81_0 K w L) ⟨some 6631, [(1273, .un 6631)]⟩), (5874, S), (5871, .bi (biNe hL [1, 1, 1, 1, 0, 0, 0, 0, 1, 0, 0, 1, 1, 0, 1, 0, 1, 1, 1] [1, 1, 1, 1, 0, 0, 0, 0, 1, 0, 0, 1, 1, 0, 1, 0, 1, 1, 1] rfl rfl)), (5771, S), (5768, .bi (biIter hL [0, 0, 0, 0, 1, 0, 0, 1, 1, 0, 1, 0, 1, 1, 1, 1] rfl)), (5761, .comp .ascii), (5134, S), (5112, .repl (rCode hL 1292 1293 0 rfl)), (5096, .repl (rCode hL 1292 1293 0 rfl)), (5080, .repl (rCode hL 1292 1293 0 rfl)), (5064, .repl (rCode hL 1292 1293 0 rfl)), (5048, .repl (rCode hL 1292 1293 1 rfl)), (5032, .repl (rCode hL 1292 1293 0 rfl)), (5016, .repl (rCode hL 1292 1293 0 rfl)), (5000, .repl (rCode hL 1292 1293 1 rfl)), (4984, .repl (rCode hL 1292 1293 1 rfl)), (4968, .repl (rCode hL 1292 1293 0 rfl)), (4952, .repl (rCode hL 1292 1293 1 rfl)), (4936, .repl (rCode hL 1292 1293 0 rfl)), (4920, .repl (rCode hL 1292 1293 1 rfl)), (4904, .repl (rCode hL 1292 1293 1 rfl)), (4888, .repl (rCode hL 1292 1293 1 rfl)), (4872, .repl (rCode hL 1292 1293 1 rfl)), (4538, S), (4508, S), (4505, .bi (aPad hL 0 rfl)), (4495, .fn (ra_v108 K w L) ⟨some 5937, [(2452, .un 5937)]⟩), (4481, S), (4478, .bi (aGe64 hL 0 rfl)), (4455, S), (4392, S), (4389, .bi (aPad hL 0 rfl)), (4379, .fn (ra_v113 K w L) ⟨some 5937, [(2554, .un 4495), (2549, .tau 4495), (2452, .un 5937)]⟩), (4365, S), (4362, .bi (aGe64 hL 0 rfl)), (4339, S), (4330, S), (4302, .bi (aShl2 hL 0 rfl)), (4293, .bi (aShr4 hL 0 rfl)), (4287, .bi (aOr0 hL 0 0 rfl rfl)), (4268, .bi (aAnd15 hL 0 rfl)), (4218, S), (4215, .bi (aPad hL 0 rfl)), (4205, .fn (ra_v115 K w L) ⟨some 5937, [(2573, .un 4379), (2568, .tau 4379), (2554, .un 4495), (2549, .tau 4495), (2452, .un 5937)]⟩), (4191, S), (4188, .bi (aGe64 hL 0 rfl)), (4165, S), (4156, S), (4147, S), (4119, .bi (aShl4 hL 0 rfl)), (4110, .bi (aShr2 hL 0 rfl)), (4104, .bi (aOr1 hL 0 0 rfl rfl)), (4085, .bi (aAnd3 hL 0 rfl)), (4035, S), (4032, .bi (aPad hL 0 rfl)), (4022, .fn (ra_v117 K w L) ⟨some 5937, [(2600, .un 4205), (2595, .tau 4205), (2573, .un 4379), (2568, .tau 4379), (2554, .un 4495), (2549, .tau 4495), (2452, .un 5937)]⟩), (4008, S), (4005, .bi (aGe64 hL 0 rfl)), (3982, S), (3973, S), (3964, S), (3936, .bi (aShl6 hL 0 rfl)), (3928, .bi (aOr2 hL 0 0 rfl rfl)), (3867, S), (3864, .bi (aPad hL 1 rfl)), (3854, .fn (ra_v119 K w L) ⟨some 5937, [(2628, .un 4022), (2623, .tau 4022), (2600, .un 4205), (2595, .tau 4205), (2573, .un 4379), (2568, .tau 4379), (2554, .un 4495), (2549, .tau 4495), (2452, .un 5937)]⟩), (3840, S), (3837, .bi (aGe64 hL 1 rfl)), (3814, S), (3751, S), (3748, .bi (aPad hL 0 rfl)), (3738, .fn (ra_v121 K w L) ⟨some 5937, [(2655, .un 3854), (2648, .tau 3854), (2628, .un 4022), (2623, .tau 4022), (2600, .un 4205), (2595, .tau 4205), (2573, .un 4379), (2568, .tau 4379), (2554, .un 4495), (2549, .tau 4495), (2452, .un 5937)]⟩), (3724, S), (3721, .bi (aGe64 hL 0 rfl)), (3698, S), (3689, S), (3661, .bi (aShl2 hL 1 rfl)), (3652, .bi (aShr4 hL 0 rfl)), (3646, .bi (aOr0 hL 1 0 rfl rfl)), (3627, .bi (aAnd15 hL 0 rfl)), (3577, S), (3574, .bi (aPad hL 0 rfl)), (3564, .fn (ra_v123 K w L) ⟨some 5937, [(2674, .un 3738), (2669, .tau 3738), (2655, .un 3854), (2648, .tau 3854), (2628, .un 4022), (2623, .tau 4022), (2600, .un 4205), (2595, .tau 4205), (2573, .un 4379), (2568, .tau 4379), (2554, .un 4495), (2549, .tau 4495), (2452, .un 5937)]⟩), (3550, S), (3547, .bi (aGe64 hL 0 rfl)), (3524, S), (3515, S), (3506, S), (3478, .bi (aShl4 hL 0 rfl)), (3469, .bi (aShr2 hL 0 rfl)), (3463, .bi (aOr1 hL 0 0 rfl rfl)), (3444, .bi (aAnd3 hL 0 rfl)), (3394, S), (3391, .bi (aPad hL 1 rfl)), (3381, .fn (ra_v125 K w L) ⟨some 5937, [(2701, .un 3564), (2696, .tau 3564), (2674, .un 3738), (2669, .tau 3738), (2655, .un 3854), (2648, .tau 3854), (2628, .un 4022), (2623, .tau 4022), (2600, .un 4205), (2595, .tau 4205), (2573, .un 4379), (2568, .tau 4379), (2554, .un 4495), (2549, .tau 4495), (2452, .un 5937)]⟩), (3367, S), (3364, .bi (aGe64 hL 1 rfl)), (3341, S), (3332, S), (3323, S), (3295, .bi (aShl6 hL 0 rfl)), (3287, .bi (aOr2 hL 0 1 rfl rfl)), (3226, S), (3223, .bi (aPad hL 1 rfl)), (3213, .fn (ra_v127 K w L) ⟨some 5937, [(2731, .un 3381), (2724, .tau 3381), (2701, .un 3564), (2696, .tau 3564), (2674, .un 3738), (2669, .tau 3738), (2655, .un 3854), (2648, .tau 3854), (2628, .un 4022), (2623, .tau 4022), (2600, .un 4205), (2595, .tau 4205), (2573, .un 4379), (2568, .tau 4379), (2554, .un 4495), (2549, .tau 4495), (2452, .un 5937)]⟩), (3199, S), (3196, .bi (aGe64 hL 1 rfl)), (3173, S), (3110, S), (3107, .bi (aPad hL 0 rfl)), (3097, .fn (ra_v129 K w L) ⟨some 5937, [(2758, .un 3213), (2751, .tau 3213), (2731, .un 3381), (2724, .tau 3381), (2701, .un 3564), (2696, .tau 3564), (2674, .un 3738), (2669, .tau 3738), (2655, .un 3854), (2648, .tau 3854), (2628, .un 4022), (2623, .tau 4022), (2600, .un 4205), (2595, .tau 4205), (2573, .un 4379), (2568, .tau 4379), (2554, .un 4495), (2549, .tau 4495), (2452, .un 5937)]⟩), (3083, S), (3080, .bi (aGe64 hL 0 rfl)), (3057, S), (3048, S), (3020, .bi (aShl2 hL 1 rfl)), (3011, .bi (aShr4 hL 0 rfl)), (3005, .bi (aOr0 hL 1 0 rfl rfl)), (2986, .bi (aAnd15 hL 0 rfl)), (2936, S), (2933, .bi (aPad hL 1 rfl)), (2923, .fn (ra_v131 K w L) ⟨some 5937, [(2777, .un 3097), (2772, .tau 3097), (2758, .un 3213), (2751, .tau 3213), (2731, .un 3381), (2724, .tau 3381), (2701, .un 3564), (2696, .tau 3564), (2674, .un 3738), (2669, .tau 3738), (2655, .un 3854), (2648, .tau 3854), (2628, .un 4022), (2623, .tau 4022), (2600, .un 4205), (2595, .tau 4205), (2573, .un 4379), (2568, .tau 4379), (2554, .un 4495), (2549, .tau 4495), (2452, .un 5937)]⟩), (2909, S), (2906, .bi (aGe64 hL 1 rfl)), (2883, S), (2874, S), (2865, S), (2837, .bi (aShl4 hL 0 rfl)), (2828, .bi (aShr2 hL 1 rfl)), (2822, .bi (aOr1 hL 0 1 rfl rfl)), (2803, .bi (aAnd3 hL 1 rfl)), (2753, S), (2750, .bi (aPad hL 0 rfl)), (2740, .fn (ra_v133 K w L) ⟨some 5937, [(2806, .un 2923), (2799, .tau 2923), (2777, .un 3097), (2772, .tau 3097), (2758, .un 3213), (2751, .tau 3213), (2731, .un 3381), (2724, .tau 3381), (2701, .un 3564), (2696, .tau 3564), (2674, .un 3738), (2669, .tau 3738), (2655, .un 3854), (2648, .tau 3854), (2628, .un 4022), (2623, .tau 4022), (2600, .un 4205), (2595, .tau 4205), (2573, .un 4379), (2568, .tau 4379), (2554, .un 4495), (2549, .tau 4495), (2452, .un 5937)]⟩), (2726, S), (2723, .bi (aGe64 hL 0 rfl)), (2700, S), (2691, S), (2682, S), (2654, .bi (aShl6 hL 1 rfl)), (2646, .bi (aOr2 hL 1 0 rfl rfl)), (2585, S), (2582, .bi (aPad hL 1 rfl)), (2572, .fn (ra_v135 K w L) ⟨some 5937, [(2834, .un 2740), (2829, .tau 2740), (2806, .un 2923), (2799, .tau 2923), (2777, .un 3097), (2772, .tau 3097), (2758, .un 3213), (2751, .tau 3213), (2731, .un 3381), (2724, .tau 3381), (2701, .un 3564), (2696, .tau 3564), (2674, .un 3738), (2669, .tau 3738), (2655, .un 3854), (2648, .tau 3854), (2628, .un 4022), (2623, .tau 4022), (2600, .un 4205), (2595, .tau 4205), (2573, .un 4379), (2568, .tau 4379), (2554, .un 4495), (2549, .tau 4495), (2452, .un 5937)]⟩), (2558, S), (2555, .bi (aGe64 hL 1 rfl)), (2532, S), (2469, S), (2466, .bi (aPad hL 1 rfl)), (2456, .fn (ra_v137 K w L) ⟨some 5937, [(2861, .un 2572), (2854, .tau 2572), (2834, .un 2740), (2829, .tau 2740), (2806, .un 2923), (2799, .tau 2923), (2777, .un 3097), (2772, .tau 3097), (2758, .un 3213), (2751, .tau 3213), (2731, .un 3381), (2724, .tau 3381), (2701, .un 3564), (2696, .tau 3564), (2674, .un 3738), (2669, .tau 3738), (2655, .un 3854), (2648, .tau 3854), (2628, .un 4022), (2623, .tau 4022), (2600, .un 4205), (2595, .tau 4205), (2573, .un 4379), (2568, .tau 4379), (2554, .un 4495), (2549, .tau 4495), (2452, .un 5937)]⟩), (2442, S), (2439, .bi (aGe64 hL 1 rfl)), (2416, S), (2407, S), (2379, .bi (aShl2 hL 1 rfl)), (2370, .bi (aShr4 hL 1 rfl)), (2364, .bi (aOr0 hL 1 1 rfl rfl)), (2345, .bi (aAnd15 hL 1 rfl)), (2295, S), (2292, .bi (aPad hL 1 rfl)), (2282, .fn (ra_v139 K w L) ⟨some 5937, [(2882, .un 2456), (2875, .tau 2456), (2861, .un 2572), (2854, .tau 2572), (2834, .un 2740), (2829, .tau 2740), (2806, .un 2923), (2799, .tau 2923), (2777, .un 3097), (2772, .tau 3097), (2758, .un 3213), (2751, .tau 3213), (2731, .un 3381), (2724, .tau 3381), (2701, .un 3564), (2696, .tau 3564), (2674, .un 3738), (2669, .tau 3738), (2655, .un 3854), (2648, .tau 3854), (2628, .un 4022), (2623, .tau 4022), (2600, .un 4205), (2595, .tau 4205), (2573, .un 4379), (2568, .tau 4379), (2554, .un 4495), (2549, .tau 4495), (2452, .un 5937)]⟩), (2268, S), (2265, .bi (aGe64 hL 1 rfl)), (2242, S), (2233, S), (2224, S), (2196, .bi (aShl4 hL 1 rfl)), (2187, .bi (aShr2 hL 1 rfl)), (2181, .bi (aOr1 hL 1 1 rfl rfl)), (2162, .bi (aAnd3 hL 1 rfl)), (2112, S), (2109, .bi (aPad hL 1 rfl)), (2099, .fn (ra_v141 K w L) ⟨some 5937, [(2911, .un 2282), (2904, .tau 2282), (2882, .un 2456), (2875, .tau 2456), (2861, .un 2572), (2854, .tau 2572), (2834, .un 2740), (2829, .tau 2740), (2806, .un 2923), (2799, .tau 2923), (2777, .un 3097), (2772, .tau 3097), (2758, .un 3213), (2751, .tau 3213), (2731, .un 3381), (2724, .tau 3381), (2701, .un 3564), (2696, .tau 3564), (2674, .un 3738), (2669, .tau 3738), (2655, .un 3854), (2648, .tau 3854), (2628, .un 4022), (2623, .tau 4022), (2600, .un 4205), (2595, .tau 4205), (2573, .un 4379), (2568, .tau 4379), (2554, .un 4495), (2549, .tau 4495), (2452, .un 5937)]⟩), (2085, S), (2082, .bi (aGe64 hL 1 rfl)), (2059, S), (2050, S), (2041, S), (2013, .bi (aShl6 hL 1 rfl)), (2005, .bi (aOr2 hL 1 1 rfl rfl)), (1945, S), (1936, S), (1914, S), (1892, .repl (rQ0 hL 1321 1322 0 0 rfl rfl)), (1876, .repl (rQ1 hL 1321 1322 0 0 rfl rfl)), (1860, .repl (rQ2 hL 1321 1322 0 0 rfl rfl)), (1844, .repl (rQ0 hL 1321 1322 1 0 rfl rfl)), (1828, .repl (rQ1 hL 1321 1322 0 0 rfl rfl)), (1812, .repl (rQ2 hL 1321 1322 0 1 rfl rfl)), (1796, .repl (rQ0 hL 1321 1322 1 0 rfl rfl)), (1780, .repl (rQ1 hL 1321 1322 0 1 rfl rfl)), (1764, .repl (rQ2 hL 1321 1322 1 0 rfl rfl)), (1748, .repl (rQ0 hL 1321 1322 1 1 rfl rfl)), (1732, .repl (rQ1 hL 1321 1322 1 1 rfl rfl)), (1716, .repl (rQ2 hL 1321 1322 1 1 rfl rfl)), (1568, S), (1494, S), (1454, .bi (aAdd1 L 0)), (1418, .bi (aMul1 L 0)), (1410, .bi (aAdd2 L 0 0)), (1374, .bi (aMul2 L 0 0)), (1366, .bi (aAdd3 L 0 0 0)), (1330, .bi (aMul3 L 0 0 0)), (1322, .bi (aAdd4 L 0 0 0 0)), (1277, .bi (aDiv0 hL 0 0 0 0 rfl rfl rfl rfl)), (1268, .bi (aDiv1 L 0 0 0 0)), (1261, .bi (aMod1 hL 0 0 0 0 rfl rfl rfl rfl)), (1252, .bi (aMod2 hL 0 0 0 0 rfl rfl rfl rfl)), (1172, S), (1132, .bi (aAdd1 L 1)), (1096, .bi (aMul1 L 1)), (1088, .bi (aAdd2 L 1 0)), (1052, .bi (aMul2 L 1 0)), (1044, .bi (aAdd3 L 1 0 0)), (1008, .bi (aMul3 L 1 0 0)), (1000, .bi (aAdd4 L 1 0 0 1)), (955, .bi (aDiv0 hL 1 0 0 1 rfl rfl rfl rfl)), (946, .bi (aDiv1 L 1 0 0 1)), (939, .bi (aMod1 hL 1 0 0 1 rfl rfl rfl rfl)), (930, .bi (aMod2 hL 1 0 0 1 rfl rfl rfl rfl)), (850, S), (810, .bi (aAdd1 L 1)), (774, .bi (aMul1 L 1)), (766, .bi (aAdd2 L 1 0)), (730, .bi (aMul2 L 1 0)), (722, .bi (aAdd3 L 1 0 1)), (686, .bi (aMul3 L 1 0 1)), (678, .bi (aAdd4 L 1 0 1 0)), (633, .bi (aDiv0 hL 1 0 1 0 rfl rfl rfl rfl)), (624, .bi (aDiv1 L 1 0 1 0)), (617, .bi (aMod1 hL 1 0 1 0 rfl rfl rfl rfl)), (608, .bi (aMod2 hL 1 0 1 0 rfl rfl rfl rfl)), (528, S), (488, .bi (aAdd1 L 1)), (452, .bi (aMul1 L 1)), (444, .bi (aAdd2 L 1 1)), (408, .bi (aMul2 L 1 1)), (400, .bi (aAdd3 L 1 1 1)), (364, .bi (aMul3 L 1 1 1)), (356, .bi (aAdd4 L 1 1 1 1)), (311, .bi (aDiv0 hL 1 1 1 1 rfl rfl rfl rfl)), (302, .bi (aDiv1 L 1 1 1 1)), (295, .bi (aMod1 hL 1 1 1 1 rfl rfl rfl rfl)), (286, .bi (aMod2 hL 1 1 1 1 rfl rfl rfl rfl)), (235, S), (213, .repl (rQ0 hL 1358 1359 0 0 rfl rfl)), (197, .repl (rQ1 hL 1358 1359 0 0 rfl rfl)), (181, .repl (rQ2 hL 1358 1359 0 0 rfl rfl)), (165, .repl (rQ0 hL 1358 1359 1 0 rfl rfl)), (149, .repl (rQ1 hL 1358 1359 0 0 rfl rfl)), (133, .repl (rQ2 hL 1358 1359 0 1 rfl rfl)), (117, .repl (rQ0 hL 1358 1359 1 0 rfl rfl)), (101, .repl (rQ1 hL 1358 1359 0 1 rfl rfl)), (85, .repl (rQ2 hL 1358 1359 1 0 rfl rfl)), (69, .repl (rQ0 hL 1358 1359 1 1 rfl rfl)), (53, .repl (rQ1 hL 1358 1359 1 1 rfl rfl)), (37, .repl (rQ2 hL 1358 1359 1 1 rfl rfl)), (6, S), (3, .bi (bBytes [q0 L 0 0, q1 L 0 0, q2 L 0 0, q0 L 1 0, q1 L 0 0, q2 L 0 1, q0 L 1 0, q1 L 0 1, q2 L 1 0, q0 L 1 1, q1 L 1 1, q2 L 1 1]))]
theorem ra_top_t (b : Pk) (L : Lt) (hL : LtOk L 2) (hH : HdOk L 0) (h63 : b.vs.length ≤ 63) : TopT (b.V z0.1) G0 default 7684 137 (ra_top_h z0.1 b.w L hL hH b.vs h63) := by intro i τ υ; kernel_rfl
theorem ra_top (b : Pk) (O : (b.V z0.1).Ok) (L : Lt) (hL : LtOk L 2) (hH : HdOk L 0) (h63 : b.vs.length ≤ 63) (hB : Bnd L) (hsum : (ra_sum z0.1 b.w L b.vs).Ok (b.V z0.1)) (hvals : (ra_vals z0.1 b.w L).Ok (b.V z0.1)) (i : Nat) (hR : ∀ T m' i' ch h, RepK (b.V z0.1) h T m' ch → b.R₀ (.ok (.ret (.bool true))) ⟨h, ⟨[]⟩, b.d, b.t₀ + i', b.os⟩) : GoX (b.V z0.1) G0 default .base (dF G0.code) .nil 137 i [] :=
  top_go O (ra_top_t b L hL hH h63) (met (.fn hsum ⟨none, [(361, .cnt)]⟩ (.ctr hvals ⟨none, [(369, .un 7642), (363, .tau 7642), (361, .cnt)]⟩ (.ctr (ra_lm17_0_ok b O L hL hB) ⟨some 7461, [(403, .un 7461)]⟩ (.ctr (ra_lm36_0_ok b O L hL hB) ⟨some 7152, [(450, .un 7152)]⟩ (.ctr (ra_lm47_0_ok b O L hL hB) ⟨some 7069, [(548, .un 7069)]⟩ (.ctr (ra_row73_0_ok b O L hL hB) ⟨some 6950, [(1245, .un 6950)]⟩ (.ctr (ra_grow81_0_ok b O L hL hB) ⟨some 6631, [(1273, .un 6631)]⟩ (.fn (ra_v108_ok b O L hL hB) ⟨some 5937, [(2452, .un 5937)]⟩ (.fn (ra_v113_ok b O L hL hB) ⟨some 5937, [(2554, .un 4495), (2549, .tau 4495), (2452, .un 5937)]⟩ (.fn (ra_v115_ok b O L hL hB) ⟨some 5937, [(2573, .un 4379), (2568, .tau 4379), (2554, .un 4495), (2549, .tau 4495), (2452, .un 5937)]⟩ (.fn (ra_v117_ok b O L hL hB) ⟨some 5937, [(2600, .un 4205), (2595, .tau 4205), (2573, .un 4379), (2568, .tau 4379), (2554, .un 4495), (2549, .tau 4495), (2452, .un 5937)]⟩ (.fn (ra_v119_ok b O L hL hB) ⟨some 5937, [(2628, .un 4022), (2623, .tau 4022), (2600, .un 4205), (2595, .tau 4205), (2573, .un 4379), (2568, .tau 4379), (2554, .un 4495), (2549, .tau 4495), (2452, .un 5937)]⟩ (.fn (ra_v121_ok b O L hL hB) ⟨some 5937, [(2655, .un 3854), (2648, .tau 3854), (2628, .un 4022), (2623, .tau 4022), (2600, .un 4205), (2595, .tau 4205), (2573, .un 4379), (2568, .tau 4379), (2554, .un 4495), (2549, .tau 4495), (2452, .un 5937)]⟩ (.fn (ra_v123_ok b O L hL hB) ⟨some 5937, [(2674, .un 3738), (2669, .tau 3738), (2655, .un 3854), (2648, .tau 3854), (2628, .un 4022), (2623, .tau 4022), (2600, .un 4205), (2595, .tau 4205), (2573, .un 4379), (2568, .tau 4379), (2554, .un 4495), (2549, .tau 4495), (2452, .un 5937)]⟩ (.fn (ra_v125_ok b O L hL hB) ⟨some 5937, [(2701, .un 3564), (2696, .tau 3564), (2674, .un 3738), (2669, .tau 3738), (2655, .un 3854), (2648, .tau 3854), (2628, .un 4022), (2623, .tau 4022), (2600, .un 4205), (2595, .tau 4205), (2573, .un 4379), (2568, .tau 4379), (2554, .un 4495), (2549, .tau 4495), (2452, .un 5937)]⟩ (.fn (ra_v127_ok b O L hL hB) ⟨some 5937, [(2731, .un 3381), (2724, .tau 3381), (2701, .un 3564), (2696, .tau 3564), (2674, .un 3738), (2669, .tau 3738), (2655, .un 3854), (2648, .tau 3854), (2628, .un 4022), (2623, .tau 4022), (2600, .un 4205), (2595, .tau 4205), (2573, .un 4379), (2568, .tau 4379), (2554, .un 4495), (2549, .tau 4495), (2452, .un 5937)]⟩ (.fn (ra_v129_ok b O L hL hB) ⟨some 5937, [(2758, .un 3213), (2751, .tau 3213), (2731, .un 3381), (2724, .tau 3381), (2701, .un 3564), (2696, .tau 3564), (2674, .un 3738), (2669, .tau 3738), (2655, .un 3854), (2648, .tau 3854), (2628, .un 4022), (2623, .tau 4022), (2600, .un 4205), (2595, .tau 4205), (2573, .un 4379), (2568, .tau 4379), (2554, .un 4495), (2549, .tau 4495), (2452, .un 5937)]⟩ (.fn (ra_v131_ok b O L hL hB) ⟨some 5937, [(2777, .un 3097), (2772, .tau 3097), (2758, .un 3213), (2751, .tau 3213), (2731, .un 3381), (2724, .tau 3381), (2701, .un 3564), (2696, .tau 3564), (2674, .un 3738), (2669, .tau 3738), (2655, .un 3854), (2648, .tau 3854), (2628, .un 4022), (2623, .tau 4022), (2600, .un 4205), (2595, .tau 4205), (2573, .un 4379), (2568, .tau 4379), (2554, .un 4495), (2549, .tau 4495), (2452, .un 5937)]⟩ (.fn (ra_v133_ok b O L hL hB) ⟨some 5937, [(2806, .un 2923), (2799, .tau 2923), (2777, .un 3097), (2772, .tau 3097), (2758, .un 3213), (2751, .tau 3213), (2731, .un 3381), (2724, .tau 3381), (2701, .un 3564), (2696, .tau 3564), (2674, .un 3738), (2669, .tau 3738), (2655, .un 3854), (2648, .tau 3854), (2628, .un 4022), (2623, .tau 4022), (2600, .un 4205), (2595, .tau 4205), (2573, .un 4379), (2568, .tau 4379), (2554, .un 4495), (2549, .tau 4495), (2452, .un 5937)]⟩ (.fn (ra_v135_ok b O L hL hB) ⟨some 5937, [(2834, .un 2740), (2829, .tau 2740), (2806, .un 2923), (2799, .tau 2923), (2777, .un 3097), (2772, .tau 3097), (2758, .un 3213), (2751, .tau 3213), (2731, .un 3381), (2724, .tau 3381), (2701, .un 3564), (2696, .tau 3564), (2674, .un 3738), (2669, .tau 3738), (2655, .un 3854), (2648, .tau 3854), (2628, .un 4022), (2623, .tau 4022), (2600, .un 4205), (2595, .tau 4205), (2573, .un 4379), (2568, .tau 4379), (2554, .un 4495), (2549, .tau 4495), (2452, .un 5937)]⟩ (.fn (ra_v137_ok b O L hL hB) ⟨some 5937, [(2861, .un 2572), (2854, .tau 2572), (2834, .un 2740), (2829, .tau 2740), (2806, .un 2923), (2799, .tau 2923), (2777, .un 3097), (2772, .tau 3097), (2758, .un 3213), (2751, .tau 3213), (2731, .un 3381), (2724, .tau 3381), (2701, .un 3564), (2696, .tau 3564), (2674, .un 3738), (2669, .tau 3738), (2655, .un 3854), (2648, .tau 3854), (2628, .un 4022), (2623, .tau 4022), (2600, .un 4205), (2595, .tau 4205), (2573, .un 4379), (2568, .tau 4379), (2554, .un 4495), (2549, .tau 4495), (2452, .un 5937)]⟩ (.fn (ra_v139_ok b O L hL hB) ⟨some 5937, [(2882, .un 2456), (2875, .tau 2456), (2861, .un 2572), (2854, .tau 2572), (2834, .un 2740), (2829, .tau 2740), (2806, .un 2923), (2799, .tau 2923), (2777, .un 3097), (2772, .tau 3097), (2758, .un 3213), (2751, .tau 3213), (2731, .un 3381), (2724, .tau 3381), (2701, .un 3564), (2696, .tau 3564), (2674, .un 3738), (2669, .tau 3738), (2655, .un 3854), (2648, .tau 3854), (2628, .un 4022), (2623, .tau 4022), (2600, .un 4205), (2595, .tau 4205), (2573, .un 4379), (2568, .tau 4379), (2554, .un 4495), (2549, .tau 4495), (2452, .un 5937)]⟩ (.fn (ra_v141_ok b O L hL hB) ⟨some 5937, [(2911, .un 2282), (2904, .tau 2282), (2882, .un 2456), (2875, .tau 2456), (2861, .un 2572), (2854, .tau 2572), (2834, .un 2740), (2829, .tau 2740), (2806, .un 2923), (2799, .tau 2923), (2777, .un 3097), (2772, .tau 3097), (2758, .un 3213), (2751, .tau 3213), (2731, .un 3381), (2724, .tau 3381), (2701, .un 3564), (2696, .tau 3564), (2674, .un 3738), (2669, .tau 3738), (2655, .un 3854), (2648, .tau 3854), (2628, .un 4022), (2623, .tau 4022), (2600, .un 4205), (2595, .tau 4205), (2573, .un 4379), (2568, .tau 4379), (2554, .un 4495), (2549, .tau 4495), (2452, .un 5937)]⟩ .nil))))))))))))))))))))))) (by kernel_rfl)) i hR

end Mine
end
section
open PySem PySem.W PySem.W.X PyProof.Rows
set_option maxRecDepth 100000
namespace Mine
noncomputable def rbe0 (K : Params → KT) (w : World) (L : Lt) (τ : Nat → Nat) : Env := ⟨(fdK K w 135).scope, 137, 3, [(⟨⟨[98, 97, 115, 101]⟩⟩, 139), (⟨⟨[118, 97, 108, 117, 101, 115]⟩⟩, 138)], ⟨⟨[108, 97, 119, 46, 60, 108, 111, 99, 97, 108, 115, 62, 46]⟩⟩, some 135, (.ref 134), some 137, 0⟩
noncomputable def rbx1 (K : Params → KT) (w : World) (L : Lt) (τ : Nat → Nat) : PySem.Ctx := ctxC (.builtin "sum" ⟨[.ref 141], []⟩) [((funcC (bodyK K w 135) (rbe0 K w L τ)), ⟨172, 11, 172, 27⟩), (callerC, ⟨0, 0, 0, 0⟩)]
noncomputable def rbc2 (K : Params → KT) (w : World) (L : Lt) (τ : Nat → Nat) : Ch := []
noncomputable def rb_sum (K : Params → KT) (w : World) (L : Lt) (vs : List Value) : FnC := ⟨rbx1 K w L, 142, fun τ => .ret (.int L.h (τ 368)), 146, rbc2 K w L, fun _ => [(141, ⟨.type "list", none, .seq (slc vs) 0, #[]⟩)]⟩
theorem rb_sum_ok (b : Pk) (L : Lt) (val : Nat → Int) (h63 : b.vs.length ≤ 63) (hv : ∀ i, i < b.vs.length → ∃ t, b.vs[i]? = some (.int (val i) t)) (hh : preSum val b.vs.length = L.h) : (rb_sum z0.1 b.w L b.vs).Ok (b.V z0.1) :=
  sum_ok (m := 142) (a := 141) (fun _ => rfl) ⟨rfl, rfl⟩ (fun z => ⟨fun _ => z, rfl⟩) (fun _ => by kernel_rfl) h63 hv hh
noncomputable def rbk3 (K : Params → KT) (w : World) (L : Lt) (τ : Nat → Nat) : Code := loopC (stmtAt (bodyK K w 135) [3]) (.ref 157) (rbe0 K w L τ)
noncomputable def rbx4 (K : Params → KT) (w : World) (L : Lt) (τ : Nat → Nat) : PySem.Ctx := ctxC (rbk3 K w L τ) [((funcC (bodyK K w 135) (rbe0 K w L τ)), ⟨175, 13, 175, 24⟩), (callerC, ⟨0, 0, 0, 0⟩)]
noncomputable def rbo5 (K : Params → KT) (w : World) (L : Lt) (τ : Nat → Nat) : Obj := ⟨(.type "frame"), none, (.dict ⟨[entS w ⟨⟨[115, 99, 114, 105, 112, 116]⟩⟩ (τ 361) (.ref 136), entS w ⟨⟨[104, 101, 97, 100]⟩⟩ (τ 369) (.int L.h (τ 368)), entS w ⟨⟨[107]⟩⟩ (τ 382) (.int 4 (τ 372)), entS w ⟨⟨[110]⟩⟩ (τ 383) (.int 2 (τ 373))]⟩ 4), ⟨[]⟩⟩
noncomputable def rbo6 (K : Params → KT) (w : World) (L : Lt) (τ : Nat → Nat) : Obj := ⟨(.type "cell"), none, (.cell (some (.ref 155))), ⟨[]⟩⟩
noncomputable def rbo7 (K : Params → KT) (w : World) (L : Lt) (τ : Nat → Nat) : Obj := ⟨(.type "cell"), none, (.cell none), ⟨[]⟩⟩
noncomputable def rbo8 (K : Params → KT) (w : World) (L : Lt) (τ : Nat → Nat) : Obj := ⟨(.type "list"), none, (.seq ⟨[(.int (L.v 0) (τ 389))]⟩ 0), ⟨[]⟩⟩
noncomputable def rbo9 (K : Params → KT) (w : World) (L : Lt) (τ : Nat → Nat) : Obj := ⟨(.type "range_iterator"), none, (.fields ⟨[(.int 1 0), (.int 3 0), (.int 1 0)]⟩), ⟨[]⟩⟩
noncomputable def rbl10 (K : Params → KT) (w : World) (L : Lt) (τ : Nat → Nat) : List (Addr × Obj) := [(137, rbo5 K w L τ), (138, rbo6 K w L τ), (139, rbo7 K w L τ), (155, rbo8 K w L τ), (157, rbo9 K w L τ)]
noncomputable def rbx11 (K : Params → KT) (w : World) (L : Lt) (τ : Nat → Nat) : PySem.Ctx := ctxC (.builtin "len" ⟨[.ref 136], []⟩) [((rbk3 K w L τ), ⟨176, 62, 176, 73⟩), ((funcC (bodyK K w 135) (rbe0 K w L τ)), ⟨175, 13, 175, 24⟩), (callerC, ⟨0, 0, 0, 0⟩)]
noncomputable def rb_len11 (K : Params → KT) (w : World) (L : Lt) (vs : List Value) : FnC := ⟨rbx11 K w L, 158, fun τ => .ret (.int (Int.ofNat vs.toArray.size) (τ 399)), 158, rbc2 K w L, fun _ => []⟩
theorem rb_len11_ok (b : Pk) (O : (b.V z0.1).Ok) (L : Lt) (h63 : b.vs.length ≤ 63) : (rb_len11 z0.1 b.w L b.vs).Ok (b.V z0.1) :=
  len_ok (m := 158) (a := 136) O (fun _ => rfl) ⟨rfl, rfl⟩ (fun z => ⟨fun _ => z, rfl⟩) (fun _ => by kernel_rfl) h63
noncomputable def rb_len13 (K : Params → KT) (w : World) (L : Lt) (vs : List Value) : FnC := ⟨rbx11 K w L, 158, fun τ => .ret (.int (Int.ofNat vs.toArray.size) (τ 410)), 158, rbc2 K w L, fun _ => []⟩
theorem rb_len13_ok (b : Pk) (O : (b.V z0.1).Ok) (L : Lt) (h63 : b.vs.length ≤ 63) : (rb_len13 z0.1 b.w L b.vs).Ok (b.V z0.1) :=
  len_ok (m := 158) (a := 136) O (fun _ => rfl) ⟨rfl, rfl⟩ (fun z => ⟨fun _ => z, rfl⟩) (fun _ => by kernel_rfl) h63
noncomputable def rb_len14 (K : Params → KT) (w : World) (L : Lt) (vs : List Value) : FnC := ⟨rbx11 K w L, 158, fun τ => .ret (.int (Int.ofNat vs.toArray.size) (τ 421)), 158, rbc2 K w L, fun _ => []⟩
theorem rb_len14_ok (b : Pk) (O : (b.V z0.1).Ok) (L : Lt) (h63 : b.vs.length ≤ 63) : (rb_len14 z0.1 b.w L b.vs).Ok (b.V z0.1) :=
  len_ok (m := 158) (a := 136) O (fun _ => rfl) ⟨rfl, rfl⟩ (fun z => ⟨fun _ => z, rfl⟩) (fun _ => by kernel_rfl) h63
noncomputable def rbo15 (K : Params → KT) (w : World) (L : Lt) (τ : Nat → Nat) : Obj := ⟨(.type "frame"), none, (.dict ⟨[entS w ⟨⟨[115, 99, 114, 105, 112, 116]⟩⟩ (τ 361) (.ref 136), entS w ⟨⟨[104, 101, 97, 100]⟩⟩ (τ 369) (.int L.h (τ 368)), entS w ⟨⟨[107]⟩⟩ (τ 382) (.int 4 (τ 372)), entS w ⟨⟨[110]⟩⟩ (τ 383) (.int 2 (τ 373)), entS w ⟨⟨[114]⟩⟩ (τ 393) (.int 3 (τ 414))]⟩ 5), ⟨[]⟩⟩
noncomputable def rbo16 (K : Params → KT) (w : World) (L : Lt) (τ : Nat → Nat) : Obj := ⟨(.type "list"), none, (.seq ⟨[(.int (L.v 0) (τ 389)), (.int (L.v 1) (τ 402)), (.int (L.v 2) (τ 413)), (.int (L.v 3) (τ 424))]⟩ 3), ⟨[]⟩⟩
noncomputable def rbl17 (K : Params → KT) (w : World) (L : Lt) (τ : Nat → Nat) : List (Addr × Obj) := [(137, rbo15 K w L τ), (138, rbo6 K w L τ), (139, rbo7 K w L τ), (155, rbo16 K w L τ)]
noncomputable def rb_vals (K : Params → KT) (w : World) (L : Lt) : Ctr := ⟨rbx4 K w L, fun τ => dF (rbx4 K w L τ).code, rbl10 K w L, rbc2 K w L, 158, fun τ => .next, rbl17 K w L, rbc2 K w L, 160⟩
noncomputable def rb_vals_s0_h (K : Params → KT) (w : World) (L : Lt) (xs : Nat → Int) (ts : Nat → Nat) (rest : List Value) (h1 : L.v 0 + 1 + 0 = L.v 1) (h2 : L.v 1 + 1 + 0 = L.v 2) (h3 : L.v 2 + 1 + 0 = L.v 3) : List (Nat × Act) := [(229, S), (221, .bi (bAdd (L.v 0 + 1) 0 (L.v 1) h1)), (133, S), (125, .bi (bAdd (L.v 1 + 1) 0 (L.v 2) h2)), (37, S), (29, .bi (bAdd (L.v 2 + 1) 0 (L.v 3) h3))]
theorem rb_vals_s0_t (b : Pk) (L : Lt) (xs : Nat → Int) (ts : Nat → Nat) (rest : List Value) (h1 : L.v 0 + 1 + 0 = L.v 1) (h2 : L.v 1 + 1 + 0 = L.v 2) (h3 : L.v 2 + 1 + 0 = L.v 3) : FinT ((b.on []).V z0.1) (rb_vals z0.1 b.w L) 305 (rb_vals_s0_h z0.1 b.w L xs ts rest h1 h2 h3) ⟨none, [(424, .off 29), (414, .off 20), (413, .off 19), (402, .off 9), (393, .off 1)]⟩ := by intro R p i τ υ; kernel_rfl
theorem rb_vals_s0_ok (b : Pk) (L : Lt) (xs : Nat → Int) (ts : Nat → Nat) (rest : List Value) (h1 : L.v 0 + 1 + 0 = L.v 1) (h2 : L.v 1 + 1 + 0 = L.v 2) (h3 : L.v 2 + 1 + 0 = L.v 3) (O : ((b.on []).V z0.1).Ok) (h63 : List.length (α := Value) [] ≤ 63) : (rb_vals z0.1 b.w L).Ok ((b.on []).V z0.1) := okF O (rb_vals_s0_t b L xs ts rest h1 h2 h3) (met .nil (by kernel_rfl))
noncomputable def rb_vals_s1_h (K : Params → KT) (w : World) (L : Lt) (xs : Nat → Int) (ts : Nat → Nat) (rest : List Value) (h1 : L.v 0 + 1 + 0 = L.v 1) (h2 : L.v 1 + 1 + 0 = L.v 2) (h3 : L.v 2 + 1 + 0 = L.v 3) : List (Nat × Act) := [(229, S), (221, .bi (bAdd (L.v 0 + 1) 0 (L.v 1) h1)), (133, S), (125, .bi (bAdd (L.v 1 + 1) 0 (L.v 2) h2)), (37, S), (29, .bi (bAdd (L.v 2 + 1) 0 (L.v 3) h3))]
theorem rb_vals_s1_t (b : Pk) (L : Lt) (xs : Nat → Int) (ts : Nat → Nat) (rest : List Value) (h1 : L.v 0 + 1 + 0 = L.v 1) (h2 : L.v 1 + 1 + 0 = L.v 2) (h3 : L.v 2 + 1 + 0 = L.v 3) : FinT ((b.on [.int (xs 0) (ts 0)]).V z0.1) (rb_vals z0.1 b.w L) 305 (rb_vals_s1_h z0.1 b.w L xs ts rest h1 h2 h3) ⟨none, [(424, .off 29), (414, .off 20), (413, .off 19), (402, .off 9), (393, .off 1)]⟩ := by intro R p i τ υ; kernel_rfl
theorem rb_vals_s1_ok (b : Pk) (L : Lt) (xs : Nat → Int) (ts : Nat → Nat) (rest : List Value) (h1 : L.v 0 + 1 + 0 = L.v 1) (h2 : L.v 1 + 1 + 0 = L.v 2) (h3 : L.v 2 + 1 + 0 = L.v 3) (O : ((b.on [.int (xs 0) (ts 0)]).V z0.1).Ok) (h63 : List.length (α := Value) [.int (xs 0) (ts 0)] ≤ 63) : (rb_vals z0.1 b.w L).Ok ((b.on [.int (xs 0) (ts 0)]).V z0.1) := okF O (rb_vals_s1_t b L xs ts rest h1 h2 h3) (met .nil (by kernel_rfl))
noncomputable def rb_vals_s2_h (K : Params → KT) (w : World) (L : Lt) (xs : Nat → Int) (ts : Nat → Nat) (rest : List Value) (h1 : L.v 0 + 1 + (Int.fmod (xs 1) 15) = L.v 1) (h2 : L.v 1 + 1 + 0 = L.v 2) (h3 : L.v 2 + 1 + 0 = L.v 3) : List (Nat × Act) := [(247, S), (221, .bi (bAdd (L.v 0 + 1) (Int.fmod (xs 1) 15) (L.v 1) h1)), (133, S), (125, .bi (bAdd (L.v 1 + 1) 0 (L.v 2) h2)), (37, S), (29, .bi (bAdd (L.v 2 + 1) 0 (L.v 3) h3))]
theorem rb_vals_s2_t (b : Pk) (L : Lt) (xs : Nat → Int) (ts : Nat → Nat) (rest : List Value) (h1 : L.v 0 + 1 + (Int.fmod (xs 1) 15) = L.v 1) (h2 : L.v 1 + 1 + 0 = L.v 2) (h3 : L.v 2 + 1 + 0 = L.v 3) : FinT ((b.on [.int (xs 0) (ts 0), .int (xs 1) (ts 1)]).V z0.1) (rb_vals z0.1 b.w L) 323 (rb_vals_s2_h z0.1 b.w L xs ts rest h1 h2 h3) ⟨none, [(424, .off 30), (414, .off 21), (413, .off 20), (402, .off 10), (393, .off 1)]⟩ := by intro R p i τ υ; kernel_rfl
theorem rb_vals_s2_ok (b : Pk) (L : Lt) (xs : Nat → Int) (ts : Nat → Nat) (rest : List Value) (h1 : L.v 0 + 1 + (Int.fmod (xs 1) 15) = L.v 1) (h2 : L.v 1 + 1 + 0 = L.v 2) (h3 : L.v 2 + 1 + 0 = L.v 3) (O : ((b.on [.int (xs 0) (ts 0), .int (xs 1) (ts 1)]).V z0.1).Ok) (h63 : List.length (α := Value) [.int (xs 0) (ts 0), .int (xs 1) (ts 1)] ≤ 63) : (rb_vals z0.1 b.w L).Ok ((b.on [.int (xs 0) (ts 0), .int (xs 1) (ts 1)]).V z0.1) := okF O (rb_vals_s2_t b L xs ts rest h1 h2 h3) (met .nil (by kernel_rfl))
noncomputable def rb_vals_s3_h (K : Params → KT) (w : World) (L : Lt) (xs : Nat → Int) (ts : Nat → Nat) (rest : List Value) (h1 : L.v 0 + 1 + (Int.fmod (xs 1) 15) = L.v 1) (h2 : L.v 1 + 1 + (Int.fmod (xs 2) 15) = L.v 2) (h3 : L.v 2 + 1 + 0 = L.v 3) : List (Nat × Act) := [(265, S), (239, .bi (bAdd (L.v 0 + 1) (Int.fmod (xs 1) 15) (L.v 1) h1)), (151, S), (125, .bi (bAdd (L.v 1 + 1) (Int.fmod (xs 2) 15) (L.v 2) h2)), (37, S), (29, .bi (bAdd (L.v 2 + 1) 0 (L.v 3) h3))]
theorem rb_vals_s3_t (b : Pk) (L : Lt) (xs : Nat → Int) (ts : Nat → Nat) (rest : List Value) (h1 : L.v 0 + 1 + (Int.fmod (xs 1) 15) = L.v 1) (h2 : L.v 1 + 1 + (Int.fmod (xs 2) 15) = L.v 2) (h3 : L.v 2 + 1 + 0 = L.v 3) : FinT ((b.on [.int (xs 0) (ts 0), .int (xs 1) (ts 1), .int (xs 2) (ts 2)]).V z0.1) (rb_vals z0.1 b.w L) 341 (rb_vals_s3_h z0.1 b.w L xs ts rest h1 h2 h3) ⟨none, [(424, .off 31), (414, .off 22), (413, .off 21), (402, .off 10), (393, .off 1)]⟩ := by intro R p i τ υ; kernel_rfl
theorem rb_vals_s3_ok (b : Pk) (L : Lt) (xs : Nat → Int) (ts : Nat → Nat) (rest : List Value) (h1 : L.v 0 + 1 + (Int.fmod (xs 1) 15) = L.v 1) (h2 : L.v 1 + 1 + (Int.fmod (xs 2) 15) = L.v 2) (h3 : L.v 2 + 1 + 0 = L.v 3) (O : ((b.on [.int (xs 0) (ts 0), .int (xs 1) (ts 1), .int (xs 2) (ts 2)]).V z0.1).Ok) (h63 : List.length (α := Value) [.int (xs 0) (ts 0), .int (xs 1) (ts 1), .int (xs 2) (ts 2)] ≤ 63) : (rb_vals z0.1 b.w L).Ok ((b.on [.int (xs 0) (ts 0), .int (xs 1) (ts 1), .int (xs 2) (ts 2)]).V z0.1) := okF O (rb_vals_s3_t b L xs ts rest h1 h2 h3) (met .nil (by kernel_rfl))
noncomputable def rb_len18 (K : Params → KT) (w : World) (L : Lt) (vs : List Value) : FnC := ⟨rbx11 K w L, 158, fun τ => .ret (.int (Int.ofNat vs.toArray.size) (τ 399)), 158, rbc2 K w L, fun _ => []⟩
theorem rb_len18_ok (b : Pk) (O : (b.V z0.1).Ok) (L : Lt) (h63 : b.vs.length ≤ 63) : (rb_len18 z0.1 b.w L b.vs).Ok (b.V z0.1) :=
  len_ok (m := 158) (a := 136) O (fun _ => rfl) ⟨rfl, rfl⟩ (fun z => ⟨fun _ => z, rfl⟩) (fun _ => by kernel_rfl) h63
noncomputable def rb_len19 (K : Params → KT) (w : World) (L : Lt) (vs : List Value) : FnC := ⟨rbx11 K w L, 158, fun τ => .ret (.int (Int.ofNat vs.toArray.size) (τ 410)), 158, rbc2 K w L, fun _ => []⟩
theorem rb_len19_ok (b : Pk) (O : (b.V z0.1).Ok) (L : Lt) (h63 : b.vs.length ≤ 63) : (rb_len19 z0.1 b.w L b.vs).Ok (b.V z0.1) :=
  len_ok (m := 158) (a := 136) O (fun _ => rfl) ⟨rfl, rfl⟩ (fun z => ⟨fun _ => z, rfl⟩) (fun _ => by kernel_rfl) h63
noncomputable def rb_len20 (K : Params → KT) (w : World) (L : Lt) (vs : List Value) : FnC := ⟨rbx11 K w L, 158, fun τ => .ret (.int (Int.ofNat vs.toArray.size) (τ 421)), 158, rbc2 K w L, fun _ => []⟩
theorem rb_len20_ok (b : Pk) (O : (b.V z0.1).Ok) (L : Lt) (h63 : b.vs.length ≤ 63) : (rb_len20 z0.1 b.w L b.vs).Ok (b.V z0.1) :=
  len_ok (m := 158) (a := 136) O (fun _ => rfl) ⟨rfl, rfl⟩ (fun z => ⟨fun _ => z, rfl⟩) (fun _ => by kernel_rfl) h63
noncomputable def rb_vals_s4_h (K : Params → KT) (w : World) (L : Lt) (xs : Nat → Int) (ts : Nat → Nat) (rest : List Value) (h1 : L.v 0 + 1 + (Int.fmod (xs 1) 15) = L.v 1) (h2 : L.v 1 + 1 + (Int.fmod (xs 2) 15) = L.v 2) (h3 : L.v 2 + 1 + (Int.fmod (xs 3) 15) = L.v 3) : List (Nat × Act) := [(271, .fn (rb_len18 K w L (.int (xs 0) (ts 0) :: .int (xs 1) (ts 1) :: .int (xs 2) (ts 2) :: .int (xs 3) (ts 3) :: rest)) ⟨none, [(392, .cnt)]⟩), (268, S), (265, .bi (aLt 1 (.int (xs 0) (ts 0) :: .int (xs 1) (ts 1) :: .int (xs 2) (ts 2) :: .int (xs 3) (ts 3) :: rest) (by simp only [List.length_cons]; omega))), (241, .bi (bAdd (L.v 0 + 1) (Int.fmod (xs 1) 15) (L.v 1) h1)), (165, .fn (rb_len19 K w L (.int (xs 0) (ts 0) :: .int (xs 1) (ts 1) :: .int (xs 2) (ts 2) :: .int (xs 3) (ts 3) :: rest)) ⟨none, [(400, .un 271), (398, .tau 271), (392, .cnt)]⟩), (162, S), (159, .bi (aLt 2 (.int (xs 0) (ts 0) :: .int (xs 1) (ts 1) :: .int (xs 2) (ts 2) :: .int (xs 3) (ts 3) :: rest) (by simp only [List.length_cons]; omega))), (135, .bi (bAdd (L.v 1 + 1) (Int.fmod (xs 2) 15) (L.v 2) h2)), (59, .fn (rb_len20 K w L (.int (xs 0) (ts 0) :: .int (xs 1) (ts 1) :: .int (xs 2) (ts 2) :: .int (xs 3) (ts 3) :: rest)) ⟨none, [(411, .un 165), (409, .tau 165), (400, .un 271), (398, .tau 271), (392, .cnt)]⟩), (56, S), (53, .bi (aLt 3 (.int (xs 0) (ts 0) :: .int (xs 1) (ts 1) :: .int (xs 2) (ts 2) :: .int (xs 3) (ts 3) :: rest) (by simp only [List.length_cons]; omega))), (29, .bi (bAdd (L.v 2 + 1) (Int.fmod (xs 3) 15) (L.v 3) h3))]
theorem rb_vals_s4_t (b : Pk) (L : Lt) (xs : Nat → Int) (ts : Nat → Nat) (rest : List Value) (h1 : L.v 0 + 1 + (Int.fmod (xs 1) 15) = L.v 1) (h2 : L.v 1 + 1 + (Int.fmod (xs 2) 15) = L.v 2) (h3 : L.v 2 + 1 + (Int.fmod (xs 3) 15) = L.v 3) : FinT ((b.on (.int (xs 0) (ts 0) :: .int (xs 1) (ts 1) :: .int (xs 2) (ts 2) :: .int (xs 3) (ts 3) :: rest)).V z0.1) (rb_vals z0.1 b.w L) 335 (rb_vals_s4_h z0.1 b.w L xs ts rest h1 h2 h3) ⟨none, [(422, .un 59), (420, .tau 59), (411, .un 165), (409, .tau 165), (400, .un 271), (398, .tau 271), (392, .cnt)]⟩ := by intro R p i τ υ; kernel_rfl
theorem rb_vals_s4_ok (b : Pk) (L : Lt) (xs : Nat → Int) (ts : Nat → Nat) (rest : List Value) (h1 : L.v 0 + 1 + (Int.fmod (xs 1) 15) = L.v 1) (h2 : L.v 1 + 1 + (Int.fmod (xs 2) 15) = L.v 2) (h3 : L.v 2 + 1 + (Int.fmod (xs 3) 15) = L.v 3) (O : ((b.on (.int (xs 0) (ts 0) :: .int (xs 1) (ts 1) :: .int (xs 2) (ts 2) :: .int (xs 3) (ts 3) :: rest)).V z0.1).Ok) (h63 : List.length (α := Value) (.int (xs 0) (ts 0) :: .int (xs 1) (ts 1) :: .int (xs 2) (ts 2) :: .int (xs 3) (ts 3) :: rest) ≤ 63) : (rb_vals z0.1 b.w L).Ok ((b.on (.int (xs 0) (ts 0) :: .int (xs 1) (ts 1) :: .int (xs 2) (ts 2) :: .int (xs 3) (ts 3) :: rest)).V z0.1) := okF O (rb_vals_s4_t b L xs ts rest h1 h2 h3) (met (.fn (rb_len18_ok _ O L h63) ⟨none, [(392, .cnt)]⟩ (.fn (rb_len19_ok _ O L h63) ⟨none, [(400, .un 271), (398, .tau 271), (392, .cnt)]⟩ (.fn (rb_len20_ok _ O L h63) ⟨none, [(411, .un 165), (409, .tau 165), (400, .un 271), (398, .tau 271), (392, .cnt)]⟩ .nil))) (by kernel_rfl))
noncomputable def rbe21 (K : Params → KT) (w : World) (L : Lt) (τ : Nat → Nat) : Env := ⟨(fdK K w 130).scope, 166, 3, [(⟨⟨[119, 111, 114, 100]⟩⟩, 170), (⟨⟨[109]⟩⟩, 169), (⟨⟨[115, 105, 122, 101]⟩⟩, 168), (⟨⟨[107]⟩⟩, 167)], ⟨⟨[95, 108, 97, 119, 95, 108, 121, 110, 100, 111, 110, 46, 60, 108, 111, 99, 97, 108, 115, 62, 46]⟩⟩, some 130, (.ref 129), some 166, 0⟩
noncomputable def rbk22 (K : Params → KT) (w : World) (L : Lt) (τ : Nat → Nat) : Code := loopC (stmtAt (bodyK K w 130) [1, 0, 0]) (.ref 175) (rbe21 K w L τ)
noncomputable def rbk23 (K : Params → KT) (w : World) (L : Lt) (τ : Nat → Nat) : Code := loopC (stmtAt (bodyK K w 130) [1]) (.ref 173) (rbe21 K w L τ)
noncomputable def rbx24 (K : Params → KT) (w : World) (L : Lt) (τ : Nat → Nat) : PySem.Ctx := ctxC (rbk22 K w L τ) [((rbk23 K w L τ), ⟨166, 21, 166, 37⟩), ((funcC (bodyK K w 130) (rbe21 K w L τ)), ⟨164, 16, 164, 31⟩), ((funcC (bodyK K w 135) (rbe0 K w L τ)), ⟨180, 16, 180, 33⟩), (callerC, ⟨0, 0, 0, 0⟩)]
noncomputable def rbo25 (K : Params → KT) (w : World) (L : Lt) (τ : Nat → Nat) : Obj := ⟨(.type "frame"), none, (.dict ⟨[entS w ⟨⟨[115, 99, 114, 105, 112, 116]⟩⟩ (τ 361) (.ref 136), entS w ⟨⟨[104, 101, 97, 100]⟩⟩ (τ 369) (.int L.h (τ 368)), entS w ⟨⟨[107]⟩⟩ (τ 382) (.int 4 (τ 372)), entS w ⟨⟨[110]⟩⟩ (τ 383) (.int 2 (τ 373)), entS w ⟨⟨[114]⟩⟩ (τ 393) (.int 3 (τ 414)), entS w ⟨⟨[108, 101, 116, 116, 101, 114, 115]⟩⟩ (τ 436) (.str (rel L [0, 1, 2, 3]) (τ 435)), entS w ⟨⟨[114, 111, 119]⟩⟩ (τ 437) (.ref 165)]⟩ 7), ⟨[]⟩⟩
noncomputable def rbo26 (K : Params → KT) (w : World) (L : Lt) (τ : Nat → Nat) : Obj := ⟨(.type "cell"), none, (.cell (some (.str ⟨⟨[65, 66, 67, 68, 69, 70, 71, 72, 73, 74, 75, 76, 77, 78, 79, 80, 81, 82, 83, 84, 85, 86, 87, 88, 89, 90, 97, 98, 99, 100, 101, 102, 103, 104, 105, 106, 107, 108, 109, 110, 111, 112, 113, 114, 115, 116, 117, 118, 119, 120, 121, 122, 48, 49, 50, 51, 52, 53, 54, 55, 56, 57, 43, 47]⟩⟩ (τ 425)))), ⟨[]⟩⟩
noncomputable def rbo27 (K : Params → KT) (w : World) (L : Lt) (τ : Nat → Nat) : Obj := ⟨(.type "list"), none, (.seq ⟨[]⟩ 0), ⟨[]⟩⟩
noncomputable def rbo28 (K : Params → KT) (w : World) (L : Lt) (τ : Nat → Nat) : Obj := ⟨(.type "frame"), none, (.dict ⟨[entS w ⟨⟨[110]⟩⟩ (τ 438) (.int 2 (τ 373)), entS w ⟨⟨[119, 111, 114, 100, 115]⟩⟩ (τ 439) (.ref 171)]⟩ 2), ⟨[]⟩⟩
noncomputable def rbo29 (K : Params → KT) (w : World) (L : Lt) (τ : Nat → Nat) : Obj := ⟨(.type "cell"), none, (.cell (some (.int 4 (τ 372)))), ⟨[]⟩⟩
noncomputable def rbo30 (K : Params → KT) (w : World) (L : Lt) (τ : Nat → Nat) : Obj := ⟨(.type "cell"), none, (.cell (some (.int 1 (τ 444)))), ⟨[]⟩⟩
noncomputable def rbo31 (K : Params → KT) (w : World) (L : Lt) (τ : Nat → Nat) : Obj := ⟨(.type "range_iterator"), none, (.fields ⟨[(.int 2 0), (.int 1 0), (.int 1 0)]⟩), ⟨[]⟩⟩
noncomputable def rbo32 (K : Params → KT) (w : World) (L : Lt) (τ : Nat → Nat) : Obj := ⟨(.type "range_iterator"), none, (.fields ⟨[(.int 0 0), (.int 4 0), (.int 1 0)]⟩), ⟨[]⟩⟩
noncomputable def rbl33 (K : Params → KT) (w : World) (L : Lt) (τ : Nat → Nat) : List (Addr × Obj) := [(137, rbo25 K w L τ), (138, rbo6 K w L τ), (139, rbo26 K w L τ), (155, rbo16 K w L τ), (165, rbo27 K w L τ), (166, rbo28 K w L τ), (167, rbo29 K w L τ), (168, rbo30 K w L τ), (169, rbo7 K w L τ), (170, rbo7 K w L τ), (171, rbo27 K w L τ), (173, rbo31 K w L τ), (175, rbo32 K w L τ)]
noncomputable def rbo34 (K : Params → KT) (w : World) (L : Lt) (τ : Nat → Nat) : Obj := ⟨(.type "cell"), none, (.cell (some (.int 3 (τ 489)))), ⟨[]⟩⟩
noncomputable def rbo35 (K : Params → KT) (w : World) (L : Lt) (τ : Nat → Nat) : Obj := ⟨(.type "cell"), none, (.cell (some (.ref 217))), ⟨[]⟩⟩
noncomputable def rbo36 (K : Params → KT) (w : World) (L : Lt) (τ : Nat → Nat) : Obj := ⟨(.type "list"), none, (.seq ⟨[(.ref 178), (.ref 191), (.ref 204), (.ref 217)]⟩ 4), ⟨[]⟩⟩
noncomputable def rbo37 (K : Params → KT) (w : World) (L : Lt) (τ : Nat → Nat) : Obj := ⟨(.type "list"), none, (.seq ⟨[(.int 0 (τ 460))]⟩ 1), ⟨[]⟩⟩
noncomputable def rbo38 (K : Params → KT) (w : World) (L : Lt) (τ : Nat → Nat) : Obj := ⟨(.type "list"), none, (.seq ⟨[(.int 1 (τ 473))]⟩ 1), ⟨[]⟩⟩
noncomputable def rbo39 (K : Params → KT) (w : World) (L : Lt) (τ : Nat → Nat) : Obj := ⟨(.type "list"), none, (.seq ⟨[(.int 2 (τ 486))]⟩ 1), ⟨[]⟩⟩
noncomputable def rbo40 (K : Params → KT) (w : World) (L : Lt) (τ : Nat → Nat) : Obj := ⟨(.type "list"), none, (.seq ⟨[(.int 3 (τ 499))]⟩ 1), ⟨[]⟩⟩
noncomputable def rbl41 (K : Params → KT) (w : World) (L : Lt) (τ : Nat → Nat) : List (Addr × Obj) := [(137, rbo25 K w L τ), (138, rbo6 K w L τ), (139, rbo26 K w L τ), (155, rbo16 K w L τ), (165, rbo27 K w L τ), (166, rbo28 K w L τ), (167, rbo29 K w L τ), (168, rbo30 K w L τ), (169, rbo34 K w L τ), (170, rbo35 K w L τ), (171, rbo36 K w L τ), (173, rbo31 K w L τ), (178, rbo37 K w L τ), (191, rbo38 K w L τ), (204, rbo39 K w L τ), (217, rbo40 K w L τ)]
noncomputable def rb_lm21_0 (K : Params → KT) (w : World) (L : Lt) : Ctr := ⟨rbx24 K w L, fun τ => dF (rbx24 K w L τ).code, rbl33 K w L, rbc2 K w L, 176, fun τ => .next, rbl41 K w L, rbc2 K w L, 230⟩
noncomputable def rb_lm21_0_h (K : Params → KT) (w : World) (L : Lt) (hL : LtOk L 4) : List (Nat × Act) := [(969, S), (956, .comp .range), (838, S), (825, .comp .range), (801, S), (719, S), (706, .comp .range), (588, S), (575, .comp .range), (551, S), (469, S), (456, .comp .range), (338, S), (325, .comp .range), (301, S), (219, S), (206, .comp .range), (88, S), (75, .comp .range), (51, S)]
theorem rb_lm21_0_t (b : Pk) (L : Lt) (hL : LtOk L 4) : FinT (b.V z0.1) (rb_lm21_0 z0.1 b.w L) 1017 (rb_lm21_0_h z0.1 b.w L hL) ⟨none, [(450, .cnt)]⟩ := by intro R p i τ υ; kernel_rfl
theorem rb_lm21_0_ok (b : Pk) (O : (b.V z0.1).Ok) (L : Lt) (hL : LtOk L 4) (hB : Bnd L) : (rb_lm21_0 z0.1 b.w L).Ok (b.V z0.1) := okF O (rb_lm21_0_t b L hL) (met .nil (by kernel_rfl))
noncomputable def rbk42 (K : Params → KT) (w : World) (L : Lt) (τ : Nat → Nat) : Code := loopC (stmtAt (bodyK K w 130) [1, 0, 0]) (.ref 231) (rbe21 K w L τ)
noncomputable def rbx43 (K : Params → KT) (w : World) (L : Lt) (τ : Nat → Nat) : PySem.Ctx := ctxC (rbk42 K w L τ) [((rbk23 K w L τ), ⟨166, 21, 166, 37⟩), ((funcC (bodyK K w 130) (rbe21 K w L τ)), ⟨164, 16, 164, 31⟩), ((funcC (bodyK K w 135) (rbe0 K w L τ)), ⟨180, 16, 180, 33⟩), (callerC, ⟨0, 0, 0, 0⟩)]
noncomputable def rbo44 (K : Params → KT) (w : World) (L : Lt) (τ : Nat → Nat) : Obj := ⟨(.type "cell"), none, (.cell (some (.int 2 (τ 502)))), ⟨[]⟩⟩
noncomputable def rbo45 (K : Params → KT) (w : World) (L : Lt) (τ : Nat → Nat) : Obj := ⟨(.type "range_iterator"), none, (.fields ⟨[(.int 3 0), (.int 0 0), (.int 1 0)]⟩), ⟨[]⟩⟩
noncomputable def rbo46 (K : Params → KT) (w : World) (L : Lt) (τ : Nat → Nat) : Obj := ⟨(.type "range_iterator"), none, (.fields ⟨[(.int 0 0), (.int 16 0), (.int 1 0)]⟩), ⟨[]⟩⟩
noncomputable def rbl47 (K : Params → KT) (w : World) (L : Lt) (τ : Nat → Nat) : List (Addr × Obj) := [(137, rbo25 K w L τ), (138, rbo6 K w L τ), (139, rbo26 K w L τ), (155, rbo16 K w L τ), (165, rbo27 K w L τ), (166, rbo28 K w L τ), (167, rbo29 K w L τ), (168, rbo44 K w L τ), (169, rbo34 K w L τ), (170, rbo35 K w L τ), (171, rbo36 K w L τ), (173, rbo45 K w L τ), (178, rbo37 K w L τ), (191, rbo38 K w L τ), (204, rbo39 K w L τ), (217, rbo40 K w L τ), (231, rbo46 K w L τ)]
noncomputable def rbo48 (K : Params → KT) (w : World) (L : Lt) (τ : Nat → Nat) : Obj := ⟨(.type "cell"), none, (.cell (some (.int 7 (τ 669)))), ⟨[]⟩⟩
noncomputable def rbo49 (K : Params → KT) (w : World) (L : Lt) (τ : Nat → Nat) : Obj := ⟨(.type "cell"), none, (.cell (some (.ref 360))), ⟨[]⟩⟩
noncomputable def rbo50 (K : Params → KT) (w : World) (L : Lt) (τ : Nat → Nat) : Obj := ⟨(.type "list"), none, (.seq ⟨[(.ref 178), (.ref 191), (.ref 204), (.ref 217), (.ref 252), (.ref 270), (.ref 288), (.ref 342), (.ref 360)]⟩ 9), ⟨[]⟩⟩
noncomputable def rbo51 (K : Params → KT) (w : World) (L : Lt) (τ : Nat → Nat) : Obj := ⟨(.type "range_iterator"), none, (.fields ⟨[(.int 8 0), (.int 8 0), (.int 1 0)]⟩), ⟨[]⟩⟩
noncomputable def rbo52 (K : Params → KT) (w : World) (L : Lt) (τ : Nat → Nat) : Obj := ⟨(.type "list"), none, (.seq ⟨[(.int 0 (τ 541)), (.int 1 (τ 549))]⟩ 2), ⟨[]⟩⟩
noncomputable def rbo53 (K : Params → KT) (w : World) (L : Lt) (τ : Nat → Nat) : Obj := ⟨(.type "list"), none, (.seq ⟨[(.int 0 (τ 564)), (.int 2 (τ 572))]⟩ 2), ⟨[]⟩⟩
noncomputable def rbo54 (K : Params → KT) (w : World) (L : Lt) (τ : Nat → Nat) : Obj := ⟨(.type "list"), none, (.seq ⟨[(.int 0 (τ 587)), (.int 3 (τ 595))]⟩ 2), ⟨[]⟩⟩
noncomputable def rbo55 (K : Params → KT) (w : World) (L : Lt) (τ : Nat → Nat) : Obj := ⟨(.type "list"), none, (.seq ⟨[(.int 1 (τ 656)), (.int 2 (τ 664))]⟩ 2), ⟨[]⟩⟩
noncomputable def rbo56 (K : Params → KT) (w : World) (L : Lt) (τ : Nat → Nat) : Obj := ⟨(.type "list"), none, (.seq ⟨[(.int 1 (τ 679)), (.int 3 (τ 687))]⟩ 2), ⟨[]⟩⟩
noncomputable def rbl57 (K : Params → KT) (w : World) (L : Lt) (τ : Nat → Nat) : List (Addr × Obj) := [(137, rbo25 K w L τ), (138, rbo6 K w L τ), (139, rbo26 K w L τ), (155, rbo16 K w L τ), (165, rbo27 K w L τ), (166, rbo28 K w L τ), (167, rbo29 K w L τ), (168, rbo44 K w L τ), (169, rbo48 K w L τ), (170, rbo49 K w L τ), (171, rbo50 K w L τ), (173, rbo45 K w L τ), (178, rbo37 K w L τ), (191, rbo38 K w L τ), (204, rbo39 K w L τ), (217, rbo40 K w L τ), (231, rbo51 K w L τ), (252, rbo52 K w L τ), (270, rbo53 K w L τ), (288, rbo54 K w L τ), (342, rbo55 K w L τ), (360, rbo56 K w L τ)]
noncomputable def rbo58 (K : Params → KT) (w : World) (L : Lt) (τ : Nat → Nat) : Obj := ⟨(.type "list"), none, (.seq ⟨[(.ref 178), (.ref 191), (.ref 204), (.ref 217), (.ref 252), (.ref 270), (.ref 288), (.ref 342), (.ref 360), (.ref 432)]⟩ 10), ⟨[]⟩⟩
noncomputable def rbo59 (K : Params → KT) (w : World) (L : Lt) (τ : Nat → Nat) : Obj := ⟨(.type "range_iterator"), none, (.fields ⟨[(.int 16 0), (.int 0 0), (.int 1 0)]⟩), ⟨[]⟩⟩
noncomputable def rbo60 (K : Params → KT) (w : World) (L : Lt) (τ : Nat → Nat) : Obj := ⟨(.type "list"), none, (.seq ⟨[(.int 2 (τ 771)), (.int 3 (τ 779))]⟩ 2), ⟨[]⟩⟩
noncomputable def rbl61 (K : Params → KT) (w : World) (L : Lt) (τ : Nat → Nat) : List (Addr × Obj) := [(137, rbo25 K w L τ), (138, rbo6 K w L τ), (139, rbo26 K w L τ), (155, rbo16 K w L τ), (165, rbo27 K w L τ), (166, rbo28 K w L τ), (171, rbo58 K w L τ), (173, rbo45 K w L τ), (178, rbo37 K w L τ), (191, rbo38 K w L τ), (204, rbo39 K w L τ), (217, rbo40 K w L τ), (231, rbo59 K w L τ), (252, rbo52 K w L τ), (270, rbo53 K w L τ), (288, rbo54 K w L τ), (342, rbo55 K w L τ), (360, rbo56 K w L τ), (432, rbo60 K w L τ)]
noncomputable def rbl62 (K : Params → KT) (w : World) (L : Lt) (τ : Nat → Nat) : List (Addr × Obj) := [(137, rbo25 K w L τ), (138, rbo6 K w L τ), (139, rbo26 K w L τ), (155, rbo16 K w L τ), (165, rbo27 K w L τ), (166, rbo28 K w L τ), (171, rbo58 K w L τ), (173, rbo45 K w L τ), (178, rbo37 K w L τ), (191, rbo38 K w L τ), (204, rbo39 K w L τ), (217, rbo40 K w L τ), (252, rbo52 K w L τ), (270, rbo53 K w L τ), (288, rbo54 K w L τ), (342, rbo55 K w L τ), (360, rbo56 K w L τ), (432, rbo60 K w L τ)]
noncomputable def rb_lm42_2 (K : Params → KT) (w : World) (L : Lt) : Ctr := ⟨rbx43 K w L, fun τ => dF (rbx43 K w L τ).code, rbl61 K w L, rbc2 K w L, 520, fun τ => .next, rbl62 K w L, rbc2 K w L, 522⟩
noncomputable def rb_lm42_2_h (K : Params → KT) (w : World) (L : Lt) (hL : LtOk L 4) : List (Nat × Act) := []
theorem rb_lm42_2_t (b : Pk) (L : Lt) (hL : LtOk L 4) : FinT (b.V z0.1) (rb_lm42_2 z0.1 b.w L) 17 (rb_lm42_2_h z0.1 b.w L hL) ⟨none, [(876, .cnt)]⟩ := by intro R p i τ υ; kernel_rfl
theorem rb_lm42_2_ok (b : Pk) (O : (b.V z0.1).Ok) (L : Lt) (hL : LtOk L 4) (hB : Bnd L) : (rb_lm42_2 z0.1 b.w L).Ok (b.V z0.1) := okF O (rb_lm42_2_t b L hL) (met .nil (by kernel_rfl))
noncomputable def rb_lm42_1 (K : Params → KT) (w : World) (L : Lt) : Ctr := ⟨rbx43 K w L, fun τ => dF (rbx43 K w L τ).code, rbl57 K w L, rbc2 K w L, 376, fun τ => .next, rbl62 K w L, rbc2 K w L, 522⟩
noncomputable def rb_lm42_1_h (K : Params → KT) (w : World) (L : Lt) (hL : LtOk L 4) : List (Nat × Act) := [(3229, S), (3216, .comp .range), (3033, S), (3020, .comp .range), (2935, S), (2927, S), (2921, S), (2878, S), (2820, S), (2807, .comp .range), (2624, S), (2611, .comp .range), (2526, S), (2518, S), (2512, S), (2469, S), (2411, S), (2398, .comp .range), (2215, S), (2202, .comp .range), (2117, S), (2111, Q), (2110, Q), (2066, S), (2008, S), (1995, .comp .range), (1812, S), (1799, .comp .range), (1714, S), (1706, S), (1700, S), (1666, S), (1584, S), (1571, .comp .range), (1388, S), (1375, .comp .range), (1290, S), (1282, S), (1276, S), (1233, S), (1175, S), (1162, .comp .range), (979, S), (966, .comp .range), (881, S), (873, S), (867, S), (824, S), (766, S), (753, .comp .range), (570, S), (557, .comp .range), (472, S), (464, S), (458, S), (415, S), (357, S), (344, .comp .range), (161, S), (148, .comp .range), (63, S), (57, Q), (56, Q), (12, S), (1, .meet)]
theorem rb_lm42_1_t (b : Pk) (L : Lt) (hL : LtOk L 4) : NextT (b.V z0.1) (rb_lm42_1 z0.1 b.w L) (rb_lm42_2 z0.1 b.w L) 3277 (rb_lm42_1_h z0.1 b.w L hL) ⟨none, [(692, .cnt)]⟩ := by intro R p i τ υ; kernel_rfl
theorem rb_lm42_1_ok (b : Pk) (O : (b.V z0.1).Ok) (L : Lt) (hL : LtOk L 4) (hB : Bnd L) : (rb_lm42_1 z0.1 b.w L).Ok (b.V z0.1) := okN O (rb_lm42_1_t b L hL) (rb_lm42_2_ok b O L hL hB) ⟨rfl, rfl, rfl, rfl⟩ (met .nil (by kernel_rfl))
noncomputable def rb_lm42_0 (K : Params → KT) (w : World) (L : Lt) : Ctr := ⟨rbx43 K w L, fun τ => dF (rbx43 K w L τ).code, rbl47 K w L, rbc2 K w L, 232, fun τ => .next, rbl62 K w L, rbc2 K w L, 522⟩
noncomputable def rb_lm42_0_h (K : Params → KT) (w : World) (L : Lt) (hL : LtOk L 4) : List (Nat × Act) := [(3289, S), (3276, .comp .range), (3093, S), (3080, .comp .range), (2995, S), (2989, Q), (2988, Q), (2944, S), (2886, S), (2873, .comp .range), (2690, S), (2677, .comp .range), (2592, S), (2584, S), (2578, S), (2544, S), (2462, S), (2449, .comp .range), (2266, S), (2253, .comp .range), (2168, S), (2160, S), (2154, S), (2120, S), (2038, S), (2025, .comp .range), (1842, S), (1829, .comp .range), (1744, S), (1736, S), (1730, S), (1696, S), (1614, S), (1601, .comp .range), (1418, S), (1405, .comp .range), (1320, S), (1312, S), (1306, S), (1263, S), (1205, S), (1192, .comp .range), (1009, S), (996, .comp .range), (911, S), (905, Q), (904, Q), (860, S), (802, S), (789, .comp .range), (606, S), (593, .comp .range), (508, S), (500, S), (494, S), (460, S), (378, S), (365, .comp .range), (182, S), (169, .comp .range), (84, S), (76, S), (70, S), (36, S), (1, .meet)]
theorem rb_lm42_0_t (b : Pk) (L : Lt) (hL : LtOk L 4) : NextT (b.V z0.1) (rb_lm42_0 z0.1 b.w L) (rb_lm42_1 z0.1 b.w L) 3337 (rb_lm42_0_h z0.1 b.w L hL) ⟨none, [(508, .cnt)]⟩ := by intro R p i τ υ; kernel_rfl
theorem rb_lm42_0_ok (b : Pk) (O : (b.V z0.1).Ok) (L : Lt) (hL : LtOk L 4) (hB : Bnd L) : (rb_lm42_0 z0.1 b.w L).Ok (b.V z0.1) := okN O (rb_lm42_0_t b L hL) (rb_lm42_1_ok b O L hL hB) ⟨rfl, rfl, rfl, rfl⟩ (met .nil (by kernel_rfl))
noncomputable def rbk63 (K : Params → KT) (w : World) (L : Lt) (τ : Nat → Nat) : Code := loopC (stmtAt (bodyK K w 135) [7]) (.ref 528) (rbe0 K w L τ)
noncomputable def rbx64 (K : Params → KT) (w : World) (L : Lt) (τ : Nat → Nat) : PySem.Ctx := ctxC (rbk63 K w L τ) [((funcC (bodyK K w 135) (rbe0 K w L τ)), ⟨180, 16, 180, 33⟩), (callerC, ⟨0, 0, 0, 0⟩)]
noncomputable def rbo65 (K : Params → KT) (w : World) (L : Lt) (τ : Nat → Nat) : Obj := ⟨(.type "list"), none, (.seq ⟨[(.ref 178), (.ref 252), (.ref 270), (.ref 288), (.ref 191), (.ref 342), (.ref 360), (.ref 204), (.ref 432), (.ref 217)]⟩ 2), ⟨[]⟩⟩
noncomputable def rbo66 (K : Params → KT) (w : World) (L : Lt) (τ : Nat → Nat) : Obj := ⟨(.type "list_iterator"), none, (.fields ⟨[(.ref 525), (.int 0 0)]⟩), ⟨[]⟩⟩
noncomputable def rbl67 (K : Params → KT) (w : World) (L : Lt) (τ : Nat → Nat) : List (Addr × Obj) := [(137, rbo25 K w L τ), (138, rbo6 K w L τ), (139, rbo26 K w L τ), (155, rbo16 K w L τ), (165, rbo27 K w L τ), (178, rbo37 K w L τ), (191, rbo38 K w L τ), (204, rbo39 K w L τ), (217, rbo40 K w L τ), (252, rbo52 K w L τ), (270, rbo53 K w L τ), (288, rbo54 K w L τ), (342, rbo55 K w L τ), (360, rbo56 K w L τ), (432, rbo60 K w L τ), (525, rbo65 K w L τ), (528, rbo66 K w L τ)]
noncomputable def rbo68 (K : Params → KT) (w : World) (L : Lt) (τ : Nat → Nat) : Obj := ⟨(.type "frame"), none, (.dict ⟨[entS w ⟨⟨[115, 99, 114, 105, 112, 116]⟩⟩ (τ 361) (.ref 136), entS w ⟨⟨[104, 101, 97, 100]⟩⟩ (τ 369) (.int L.h (τ 368)), entS w ⟨⟨[107]⟩⟩ (τ 382) (.int 4 (τ 372)), entS w ⟨⟨[110]⟩⟩ (τ 383) (.int 2 (τ 373)), entS w ⟨⟨[114]⟩⟩ (τ 393) (.int 3 (τ 414)), entS w ⟨⟨[108, 101, 116, 116, 101, 114, 115]⟩⟩ (τ 436) (.str (rel L [0, 1, 2, 3]) (τ 435)), entS w ⟨⟨[114, 111, 119]⟩⟩ (τ 437) (.ref 165), entS w ⟨⟨[119, 111, 114, 100]⟩⟩ (τ 876) (.ref 217)]⟩ 8), ⟨[]⟩⟩
noncomputable def rbo69 (K : Params → KT) (w : World) (L : Lt) (τ : Nat → Nat) : Obj := ⟨(.type "list"), none, (.seq ⟨[(.int (L.v 0) (τ 389)), (.int (L.v 0) (τ 389)), (.int (L.v 1) (τ 402)), (.int (L.v 0) (τ 389)), (.int (L.v 2) (τ 413)), (.int (L.v 0) (τ 389)), (.int (L.v 3) (τ 424)), (.int (L.v 1) (τ 402)), (.int (L.v 1) (τ 402)), (.int (L.v 2) (τ 413)), (.int (L.v 1) (τ 402)), (.int (L.v 3) (τ 424)), (.int (L.v 2) (τ 413)), (.int (L.v 2) (τ 413)), (.int (L.v 3) (τ 424)), (.int (L.v 3) (τ 424))]⟩ 10), ⟨[]⟩⟩
noncomputable def rbl70 (K : Params → KT) (w : World) (L : Lt) (τ : Nat → Nat) : List (Addr × Obj) := [(137, rbo68 K w L τ), (139, rbo26 K w L τ), (165, rbo69 K w L τ)]
noncomputable def rb_row63_0 (K : Params → KT) (w : World) (L : Lt) : Ctr := ⟨rbx64 K w L, fun τ => dF (rbx64 K w L τ).code, rbl67 K w L, rbc2 K w L, 529, fun τ => .next, rbl70 K w L, rbc2 K w L, 581⟩
noncomputable def rb_row63_0_h (K : Params → KT) (w : World) (L : Lt) (hL : LtOk L 4) : List (Nat × Act) := [(1437, S), (1427, .comp .list), (1316, S), (1306, .comp .list), (1156, S), (1146, .comp .list), (996, S), (986, .comp .list), (836, S), (826, .comp .list), (715, S), (705, .comp .list), (555, S), (545, .comp .list), (395, S), (385, .comp .list), (274, S), (264, .comp .list), (114, S), (104, .comp .list)]
theorem rb_row63_0_t (b : Pk) (L : Lt) (hL : LtOk L 4) : FinT (b.V z0.1) (rb_row63_0 z0.1 b.w L) 1463 (rb_row63_0_h z0.1 b.w L hL) ⟨none, [(876, .cnt)]⟩ := by intro R p i τ υ; kernel_rfl
theorem rb_row63_0_ok (b : Pk) (O : (b.V z0.1).Ok) (L : Lt) (hL : LtOk L 4) (hB : Bnd L) : (rb_row63_0 z0.1 b.w L).Ok (b.V z0.1) := okF O (rb_row63_0_t b L hL) (met .nil (by kernel_rfl))
noncomputable def rbe71 (K : Params → KT) (w : World) (L : Lt) (τ : Nat → Nat) : Env := ⟨(fdK K w 125).scope, 586, 3, [(⟨⟨[98, 101, 104, 105, 110, 100]⟩⟩, 588), (⟨⟨[116, 101, 120, 116]⟩⟩, 587)], ⟨⟨[95, 108, 97, 119, 95, 103, 114, 111, 119, 110, 46, 60, 108, 111, 99, 97, 108, 115, 62, 46]⟩⟩, some 125, (.ref 124), some 586, 0⟩
noncomputable def rbk72 (K : Params → KT) (w : World) (L : Lt) (τ : Nat → Nat) : Code := loopC (stmtAt (bodyK K w 125) [1]) .none (rbe71 K w L τ)
noncomputable def rbx73 (K : Params → KT) (w : World) (L : Lt) (τ : Nat → Nat) : PySem.Ctx := ctxC (rbk72 K w L τ) [((funcC (bodyK K w 125) (rbe71 K w L τ)), ⟨155, 4, 160, 24⟩), ((funcC (bodyK K w 135) (rbe0 K w L τ)), ⟨183, 11, 183, 33⟩), (callerC, ⟨0, 0, 0, 0⟩)]
noncomputable def rbo74 (K : Params → KT) (w : World) (L : Lt) (τ : Nat → Nat) : Obj := ⟨(.type "frame"), none, (.dict ⟨[entS w ⟨⟨[115, 99, 114, 105, 112, 116]⟩⟩ (τ 361) (.ref 136), entS w ⟨⟨[104, 101, 97, 100]⟩⟩ (τ 369) (.int L.h (τ 368)), entS w ⟨⟨[107]⟩⟩ (τ 382) (.int 4 (τ 372)), entS w ⟨⟨[110]⟩⟩ (τ 383) (.int 2 (τ 373)), entS w ⟨⟨[114]⟩⟩ (τ 393) (.int 3 (τ 414)), entS w ⟨⟨[108, 101, 116, 116, 101, 114, 115]⟩⟩ (τ 436) (.str (rel L [0, 1, 2, 3]) (τ 435)), entS w ⟨⟨[114, 111, 119]⟩⟩ (τ 437) (.ref 165), entS w ⟨⟨[119, 111, 114, 100]⟩⟩ (τ 876) (.ref 217), entS w ⟨⟨[115, 105, 103, 110, 115]⟩⟩ (τ 946) (.str (rel L [0, 0, 1, 0, 2, 0, 3, 1, 1, 2, 1, 3, 2, 2, 3, 3]) (τ 945))]⟩ 9), ⟨[]⟩⟩
noncomputable def rbo75 (K : Params → KT) (w : World) (L : Lt) (τ : Nat → Nat) : Obj := ⟨(.type "frame"), none, (.dict ⟨[entS w ⟨⟨[108, 101, 116, 116, 101, 114, 115]⟩⟩ (τ 947) (.str (rel L [0, 1, 2, 3]) (τ 435)), entS w ⟨⟨[110]⟩⟩ (τ 948) (.int 2 (τ 373))]⟩ 2), ⟨[]⟩⟩
noncomputable def rbo76 (K : Params → KT) (w : World) (L : Lt) (τ : Nat → Nat) : Obj := ⟨(.type "cell"), none, (.cell (some (.str (rel L [3, 3]) (τ 952)))), ⟨[]⟩⟩
noncomputable def rbl77 (K : Params → KT) (w : World) (L : Lt) (τ : Nat → Nat) : List (Addr × Obj) := [(137, rbo74 K w L τ), (165, rbo69 K w L τ), (586, rbo75 K w L τ), (587, rbo76 K w L τ), (588, rbo7 K w L τ)]
noncomputable def rbo78 (K : Params → KT) (w : World) (L : Lt) (τ : Nat → Nat) : Obj := ⟨(.type "frame"), none, (.dict ⟨[entS w ⟨⟨[115, 99, 114, 105, 112, 116]⟩⟩ (τ 361) (.ref 136), entS w ⟨⟨[104, 101, 97, 100]⟩⟩ (τ 369) (.int L.h (τ 368)), entS w ⟨⟨[107]⟩⟩ (τ 382) (.int 4 (τ 372)), entS w ⟨⟨[110]⟩⟩ (τ 383) (.int 2 (τ 373)), entS w ⟨⟨[114]⟩⟩ (τ 393) (.int 3 (τ 414)), entS w ⟨⟨[108, 101, 116, 116, 101, 114, 115]⟩⟩ (τ 436) (.str (rel L [0, 1, 2, 3]) (τ 435)), entS w ⟨⟨[114, 111, 119]⟩⟩ (τ 437) (.ref 165), entS w ⟨⟨[119, 111, 114, 100]⟩⟩ (τ 876) (.ref 217), entS w ⟨⟨[115, 105, 103, 110, 115]⟩⟩ (τ 946) (.str (rel L [0, 0, 1, 0, 2, 0, 3, 1, 1, 2, 1, 3, 2, 2, 3, 3]) (τ 945))]⟩ 9), ⟨[(some (.ref 134)), (some (.ref 3)), none, (some .notImplemented), none, (some (.ref 135)), (some (.ref 0)), (some (.ref 139)), (some (.ref 138))]⟩⟩
noncomputable def rbo79 (K : Params → KT) (w : World) (L : Lt) (τ : Nat → Nat) : Obj := ⟨(.type "frame"), none, (.dict ⟨[entS w ⟨⟨[108, 101, 116, 116, 101, 114, 115]⟩⟩ (τ 947) (.str (rel L [0, 1, 2, 3]) (τ 435)), entS w ⟨⟨[110]⟩⟩ (τ 948) (.int 2 (τ 373)), entS w ⟨⟨[102, 114, 101, 115, 104]⟩⟩ (τ 1079) (.ref 654)]⟩ 3), ⟨[(some (.ref 124)), (some (.ref 3)), none, (some (.ref 137)), none, (some (.ref 125)), (some (.ref 0)), (some (.ref 588)), (some (.ref 587))]⟩⟩
noncomputable def rbo80 (K : Params → KT) (w : World) (L : Lt) (τ : Nat → Nat) : Obj := ⟨(.type "cell"), none, (.cell (some (.str (rel L [3, 3, 0, 0]) (τ 1213)))), ⟨[]⟩⟩
noncomputable def rbo81 (K : Params → KT) (w : World) (L : Lt) (τ : Nat → Nat) : Obj := ⟨(.type "cell"), none, (.cell (some (.str (rel L [0]) (τ 1090)))), ⟨[]⟩⟩
noncomputable def rbo82 (K : Params → KT) (w : World) (L : Lt) (τ : Nat → Nat) : Obj := ⟨(.type "code"), none, .fields ⟨[(.str ⟨⟨[99, 111, 111, 114, 100, 95, 114, 101, 112, 114]⟩⟩ (τ 983)), (.str ⟨⟨[115, 117, 102, 102, 105, 120, 101, 100, 95, 101, 114, 114, 46, 60, 108, 111, 99, 97, 108, 115, 62, 46, 99, 111, 111, 114, 100, 95, 114, 101, 112, 114]⟩⟩ (τ 984)), (.str ⟨⟨[47, 99, 108, 97, 105, 109, 47, 99, 117, 116, 46, 112, 121]⟩⟩ (τ 985)), (.int 21 0), (.int 2 0), (.int 0 0), (.int 0 0), (.int 19 0), (.ref 600), (.bool true), (.int 181 0), (.ref 601), .none, (.ref 602), (.ref 603), (.ref 604), (.int (τ 990 : Nat) 0), (.int 21 0), (.str ⟨⟨[47, 99, 108, 97, 105, 109, 47, 99, 117, 116, 46, 112, 121]⟩⟩ (τ 991))]⟩, ⟨[]⟩⟩
noncomputable def rbl83 (K : Params → KT) (w : World) (L : Lt) (τ : Nat → Nat) : List (Addr × Obj) := [(137, rbo78 K w L τ), (165, rbo69 K w L τ), (586, rbo79 K w L τ), (587, rbo80 K w L τ), (588, rbo81 K w L τ), (605, rbo82 K w L τ)]
noncomputable def rbc84 (K : Params → KT) (w : World) (L : Lt) (τ : Nat → Nat) : Ch := [(43, ⟨[(.int 21 0), (.int 4 0), (.ref 605)]⟩)]
noncomputable def rbo85 (K : Params → KT) (w : World) (L : Lt) (τ : Nat → Nat) : Obj := ⟨(.type "frame"), none, (.dict ⟨[entS w ⟨⟨[108, 101, 116, 116, 101, 114, 115]⟩⟩ (τ 947) (.str (rel L [0, 1, 2, 3]) (τ 435)), entS w ⟨⟨[110]⟩⟩ (τ 948) (.int 2 (τ 373)), entS w ⟨⟨[102, 114, 101, 115, 104]⟩⟩ (τ 1079) (.ref 774)]⟩ 3), ⟨[(some (.ref 124)), (some (.ref 3)), none, (some (.ref 137)), none, (some (.ref 125)), (some (.ref 0)), (some (.ref 588)), (some (.ref 587))]⟩⟩
noncomputable def rbo86 (K : Params → KT) (w : World) (L : Lt) (τ : Nat → Nat) : Obj := ⟨(.type "cell"), none, (.cell (some (.str (rel L [3, 3, 0, 0, 1, 0]) (τ 1470)))), ⟨[]⟩⟩
noncomputable def rbo87 (K : Params → KT) (w : World) (L : Lt) (τ : Nat → Nat) : Obj := ⟨(.type "cell"), none, (.cell (some (.str (rel L [1]) (τ 1347)))), ⟨[]⟩⟩
noncomputable def rbl88 (K : Params → KT) (w : World) (L : Lt) (τ : Nat → Nat) : List (Addr × Obj) := [(137, rbo78 K w L τ), (165, rbo69 K w L τ), (586, rbo85 K w L τ), (587, rbo86 K w L τ), (588, rbo87 K w L τ), (605, rbo82 K w L τ)]
noncomputable def rbo89 (K : Params → KT) (w : World) (L : Lt) (τ : Nat → Nat) : Obj := ⟨(.type "frame"), none, (.dict ⟨[entS w ⟨⟨[108, 101, 116, 116, 101, 114, 115]⟩⟩ (τ 947) (.str (rel L [0, 1, 2, 3]) (τ 435)), entS w ⟨⟨[110]⟩⟩ (τ 948) (.int 2 (τ 373)), entS w ⟨⟨[102, 114, 101, 115, 104]⟩⟩ (τ 1079) (.ref 888)]⟩ 3), ⟨[(some (.ref 124)), (some (.ref 3)), none, (some (.ref 137)), none, (some (.ref 125)), (some (.ref 0)), (some (.ref 588)), (some (.ref 587))]⟩⟩
noncomputable def rbo90 (K : Params → KT) (w : World) (L : Lt) (τ : Nat → Nat) : Obj := ⟨(.type "cell"), none, (.cell (some (.str (rel L [3, 3, 0, 0, 1, 0, 2, 0]) (τ 1722)))), ⟨[]⟩⟩
noncomputable def rbo91 (K : Params → KT) (w : World) (L : Lt) (τ : Nat → Nat) : Obj := ⟨(.type "cell"), none, (.cell (some (.str (rel L [2]) (τ 1599)))), ⟨[]⟩⟩
noncomputable def rbl92 (K : Params → KT) (w : World) (L : Lt) (τ : Nat → Nat) : List (Addr × Obj) := [(137, rbo78 K w L τ), (165, rbo69 K w L τ), (586, rbo89 K w L τ), (587, rbo90 K w L τ), (588, rbo91 K w L τ), (605, rbo82 K w L τ)]
noncomputable def rbo93 (K : Params → KT) (w : World) (L : Lt) (τ : Nat → Nat) : Obj := ⟨(.type "frame"), none, (.dict ⟨[entS w ⟨⟨[108, 101, 116, 116, 101, 114, 115]⟩⟩ (τ 947) (.str (rel L [0, 1, 2, 3]) (τ 435)), entS w ⟨⟨[110]⟩⟩ (τ 948) (.int 2 (τ 373)), entS w ⟨⟨[102, 114, 101, 115, 104]⟩⟩ (τ 1079) (.ref 996)]⟩ 3), ⟨[(some (.ref 124)), (some (.ref 3)), none, (some (.ref 137)), none, (some (.ref 125)), (some (.ref 0)), (some (.ref 588)), (some (.ref 587))]⟩⟩
noncomputable def rbo94 (K : Params → KT) (w : World) (L : Lt) (τ : Nat → Nat) : Obj := ⟨(.type "cell"), none, (.cell (some (.str (rel L [3, 3, 0, 0, 1, 0, 2, 0, 3, 1]) (τ 1953)))), ⟨[]⟩⟩
noncomputable def rbo95 (K : Params → KT) (w : World) (L : Lt) (τ : Nat → Nat) : Obj := ⟨(.type "cell"), none, (.cell (some (.str (rel L [3]) (τ 1850)))), ⟨[]⟩⟩
noncomputable def rbl96 (K : Params → KT) (w : World) (L : Lt) (τ : Nat → Nat) : List (Addr × Obj) := [(137, rbo78 K w L τ), (165, rbo69 K w L τ), (586, rbo93 K w L τ), (587, rbo94 K w L τ), (588, rbo95 K w L τ), (605, rbo82 K w L τ)]
noncomputable def rbo97 (K : Params → KT) (w : World) (L : Lt) (τ : Nat → Nat) : Obj := ⟨(.type "frame"), none, (.dict ⟨[entS w ⟨⟨[108, 101, 116, 116, 101, 114, 115]⟩⟩ (τ 947) (.str (rel L [0, 1, 2, 3]) (τ 435)), entS w ⟨⟨[110]⟩⟩ (τ 948) (.int 2 (τ 373)), entS w ⟨⟨[102, 114, 101, 115, 104]⟩⟩ (τ 1079) (.ref 1104)]⟩ 3), ⟨[(some (.ref 124)), (some (.ref 3)), none, (some (.ref 137)), none, (some (.ref 125)), (some (.ref 0)), (some (.ref 588)), (some (.ref 587))]⟩⟩
noncomputable def rbo98 (K : Params → KT) (w : World) (L : Lt) (τ : Nat → Nat) : Obj := ⟨(.type "cell"), none, (.cell (some (.str (rel L [3, 3, 0, 0, 1, 0, 2, 0, 3, 1, 1, 2]) (τ 2218)))), ⟨[]⟩⟩
noncomputable def rbo99 (K : Params → KT) (w : World) (L : Lt) (τ : Nat → Nat) : Obj := ⟨(.type "cell"), none, (.cell (some (.str (rel L [1]) (τ 2091)))), ⟨[]⟩⟩
noncomputable def rbl100 (K : Params → KT) (w : World) (L : Lt) (τ : Nat → Nat) : List (Addr × Obj) := [(137, rbo78 K w L τ), (165, rbo69 K w L τ), (586, rbo97 K w L τ), (587, rbo98 K w L τ), (588, rbo99 K w L τ), (605, rbo82 K w L τ)]
noncomputable def rbo101 (K : Params → KT) (w : World) (L : Lt) (τ : Nat → Nat) : Obj := ⟨(.type "frame"), none, (.dict ⟨[entS w ⟨⟨[108, 101, 116, 116, 101, 114, 115]⟩⟩ (τ 947) (.str (rel L [0, 1, 2, 3]) (τ 435)), entS w ⟨⟨[110]⟩⟩ (τ 948) (.int 2 (τ 373)), entS w ⟨⟨[102, 114, 101, 115, 104]⟩⟩ (τ 1079) (.ref 1212)]⟩ 3), ⟨[(some (.ref 124)), (some (.ref 3)), none, (some (.ref 137)), none, (some (.ref 125)), (some (.ref 0)), (some (.ref 588)), (some (.ref 587))]⟩⟩
noncomputable def rbo102 (K : Params → KT) (w : World) (L : Lt) (τ : Nat → Nat) : Obj := ⟨(.type "cell"), none, (.cell (some (.str (rel L [3, 3, 0, 0, 1, 0, 2, 0, 3, 1, 1, 2, 1, 3]) (τ 2496)))), ⟨[]⟩⟩
noncomputable def rbo103 (K : Params → KT) (w : World) (L : Lt) (τ : Nat → Nat) : Obj := ⟨(.type "cell"), none, (.cell (some (.str (rel L [1]) (τ 2360)))), ⟨[]⟩⟩
noncomputable def rbl104 (K : Params → KT) (w : World) (L : Lt) (τ : Nat → Nat) : List (Addr × Obj) := [(137, rbo78 K w L τ), (165, rbo69 K w L τ), (586, rbo101 K w L τ), (587, rbo102 K w L τ), (588, rbo103 K w L τ), (605, rbo82 K w L τ)]
noncomputable def rbo105 (K : Params → KT) (w : World) (L : Lt) (τ : Nat → Nat) : Obj := ⟨(.type "frame"), none, (.dict ⟨[entS w ⟨⟨[108, 101, 116, 116, 101, 114, 115]⟩⟩ (τ 947) (.str (rel L [0, 1, 2, 3]) (τ 435)), entS w ⟨⟨[110]⟩⟩ (τ 948) (.int 2 (τ 373)), entS w ⟨⟨[102, 114, 101, 115, 104]⟩⟩ (τ 1079) (.ref 1302)]⟩ 3), ⟨[(some (.ref 124)), (some (.ref 3)), none, (some (.ref 137)), none, (some (.ref 125)), (some (.ref 0)), (some (.ref 588)), (some (.ref 587))]⟩⟩
noncomputable def rbo106 (K : Params → KT) (w : World) (L : Lt) (τ : Nat → Nat) : Obj := ⟨(.type "cell"), none, (.cell (some (.str (rel L [3, 3, 0, 0, 1, 0, 2, 0, 3, 1, 1, 2, 1, 3, 2, 2]) (τ 2757)))), ⟨[]⟩⟩
noncomputable def rbo107 (K : Params → KT) (w : World) (L : Lt) (τ : Nat → Nat) : Obj := ⟨(.type "cell"), none, (.cell (some (.str (rel L [2]) (τ 2622)))), ⟨[]⟩⟩
noncomputable def rbl108 (K : Params → KT) (w : World) (L : Lt) (τ : Nat → Nat) : List (Addr × Obj) := [(137, rbo78 K w L τ), (165, rbo69 K w L τ), (586, rbo105 K w L τ), (587, rbo106 K w L τ), (588, rbo107 K w L τ), (605, rbo82 K w L τ)]
noncomputable def rbl109 (K : Params → KT) (w : World) (L : Lt) (τ : Nat → Nat) : List (Addr × Obj) := [(137, rbo78 K w L τ), (165, rbo69 K w L τ)]
noncomputable def rb_grow71_7 (K : Params → KT) (w : World) (L : Lt) : Ctr := ⟨rbx73 K w L, fun τ => dF (rbx73 K w L τ).code, rbl108 K w L, rbc84 K w L, 1351, fun τ => (.ret (.str (rel L [3, 3, 0, 0, 1, 0, 2, 0, 3, 1, 1, 2, 1, 3, 2, 2, 3]) (τ 2918))), rbl109 K w L, rbc84 K w L, 1435⟩
noncomputable def rb_grow71_7_h (K : Params → KT) (w : World) (L : Lt) (hL : LtOk L 4) : List (Nat × Act) := [(3551, S), (3496, S), (3493, .bi (biIter hL [0, 1, 2, 3] rfl)), (3485, .comp .ascii), (3361, .bi (biIndex hL [3, 3, 0, 0, 1, 0, 2, 0, 3, 1, 1, 2, 1, 3, 2, 2] [2, 0] rfl rfl)), (3321, S), (3318, .bi (biIter hL [3, 3, 0, 0, 1, 0] rfl)), (3303, S), (3283, S), (3263, S), (3243, S), (3223, S), (3203, S), (3122, S), (3119, .bi (biEq hL [2, 0] [2, 0] rfl rfl)), (2990, .bi (biIndex hL [3, 3, 0, 0, 1, 0, 2, 0, 3, 1, 1, 2, 1, 3, 2, 2] [2, 1] rfl rfl)), (2950, S), (2947, .bi (biIter hL [3, 3, 0, 0, 1, 0, 2, 0, 3, 1, 1] rfl)), (2932, S), (2912, S), (2892, S), (2872, S), (2852, S), (2832, S), (2812, S), (2792, S), (2772, S), (2752, S), (2732, S), (2651, S), (2648, .bi (biEq hL [2, 1] [2, 1] rfl rfl)), (2519, .bi (biIndex hL [3, 3, 0, 0, 1, 0, 2, 0, 3, 1, 1, 2, 1, 3, 2, 2] [2, 2] rfl rfl)), (2479, S), (2476, .bi (biIter hL [3, 3, 0, 0, 1, 0, 2, 0, 3, 1, 1, 2, 1, 3] rfl)), (2461, S), (2441, S), (2421, S), (2401, S), (2381, S), (2361, S), (2341, S), (2321, S), (2301, S), (2281, S), (2261, S), (2241, S), (2221, S), (2201, S), (2120, S), (2117, .bi (biEq hL [2, 2] [2, 2] rfl rfl)), (1988, .bi (biIndex hL [3, 3, 0, 0, 1, 0, 2, 0, 3, 1, 1, 2, 1, 3, 2, 2] [2, 3] rfl rfl)), (1915, S), (1912, .bi (biRepr hL [2, 3] rfl rfl)), (1908, H (.cnt 144)), (1863, H (.cnt 144)), (1817, S), (1807, H (.un 1863 5)), (1622, S), (1568, S), (1513, S), (1510, .bi (biIter hL [0, 1, 2, 3] rfl)), (1502, .comp .ascii), (1378, .bi (biIndex hL [3, 3, 0, 0, 1, 0, 2, 0, 3, 1, 1, 2, 1, 3, 2, 2, 3] [3, 0] rfl rfl)), (1338, S), (1335, .bi (biIter hL [3] rfl)), (1320, S), (1239, S), (1236, .bi (biEq hL [3, 0] [3, 0] rfl rfl)), (1107, .bi (biIndex hL [3, 3, 0, 0, 1, 0, 2, 0, 3, 1, 1, 2, 1, 3, 2, 2, 3] [3, 1] rfl rfl)), (1067, S), (1064, .bi (biIter hL [3, 3, 0, 0, 1, 0, 2, 0] rfl)), (1049, S), (1029, S), (1009, S), (989, S), (969, S), (949, S), (929, S), (909, S), (828, S), (825, .bi (biEq hL [3, 1] [3, 1] rfl rfl)), (696, .bi (biIndex hL [3, 3, 0, 0, 1, 0, 2, 0, 3, 1, 1, 2, 1, 3, 2, 2, 3] [3, 2] rfl rfl)), (656, S), (653, .bi (biIter hL [3, 3, 0, 0, 1, 0, 2, 0, 3, 1, 1, 2, 1] rfl)), (638, S), (618, S), (598, S), (578, S), (558, S), (538, S), (518, S), (498, S), (478, S), (458, S), (438, S), (418, S), (398, S), (317, S), (314, .bi (biEq hL [3, 2] [3, 2] rfl rfl)), (185, .bi (biIndex hL [3, 3, 0, 0, 1, 0, 2, 0, 3, 1, 1, 2, 1, 3, 2, 2, 3] [3, 3] rfl rfl)), (145, S), (67, S), (64, .bi (biEq hL [3, 3] [3, 3] rfl rfl)), (18, S)]
theorem rb_grow71_7_t (b : Pk) (L : Lt) (hL : LtOk L 4) : FinT (b.V z0.1) (rb_grow71_7 z0.1 b.w L) 3570 (rb_grow71_7_h z0.1 b.w L hL) ⟨none, [(2914, .un 1807), (2908, .un 1863), (2903, .un 1908), (2758, .cnt)]⟩ := by intro R p i τ υ; kernel_rfl
theorem rb_grow71_7_ok (b : Pk) (O : (b.V z0.1).Ok) (L : Lt) (hL : LtOk L 4) (hB : Bnd L) : (rb_grow71_7 z0.1 b.w L).Ok (b.V z0.1) := okF O (rb_grow71_7_t b L hL) (met .nil (by kernel_rfl))
noncomputable def rb_grow71_6 (K : Params → KT) (w : World) (L : Lt) : Ctr := ⟨rbx73 K w L, fun τ => dF (rbx73 K w L τ).code, rbl104 K w L, rbc84 K w L, 1255, fun τ => (.ret (.str (rel L [3, 3, 0, 0, 1, 0, 2, 0, 3, 1, 1, 2, 1, 3, 2, 2, 3]) (τ 2918))), rbl109 K w L, rbc84 K w L, 1435⟩
noncomputable def rb_grow71_6_h (K : Params → KT) (w : World) (L : Lt) (hL : LtOk L 4) : List (Nat × Act) := [(3426, S), (3371, S), (3368, .bi (biIter hL [0, 1, 2, 3] rfl)), (3360, .comp .ascii), (3236, .bi (biIndex hL [3, 3, 0, 0, 1, 0, 2, 0, 3, 1, 1, 2, 1, 3] [3, 0] rfl rfl)), (3196, S), (3193, .bi (biIter hL [3] rfl)), (3178, S), (3097, S), (3094, .bi (biEq hL [3, 0] [3, 0] rfl rfl)), (2965, .bi (biIndex hL [3, 3, 0, 0, 1, 0, 2, 0, 3, 1, 1, 2, 1, 3] [3, 1] rfl rfl)), (2925, S), (2922, .bi (biIter hL [3, 3, 0, 0, 1, 0, 2, 0] rfl)), (2907, S), (2887, S), (2867, S), (2847, S), (2827, S), (2807, S), (2787, S), (2767, S), (2686, S), (2683, .bi (biEq hL [3, 1] [3, 1] rfl rfl)), (2554, .bi (biIndex hL [3, 3, 0, 0, 1, 0, 2, 0, 3, 1, 1, 2, 1, 3] [3, 2] rfl rfl)), (2481, S), (2478, .bi (biRepr hL [3, 2] rfl rfl)), (2474, H (.cnt 81)), (2429, H (.cnt 81)), (2383, S), (2373, H (.un 2429 5)), (2105, .bi (biIndex hL [3, 3, 0, 0, 1, 0, 2, 0, 3, 1, 1, 2, 1, 3] [3, 3] rfl rfl)), (2065, S), (1987, S), (1984, .bi (biEq hL [3, 3] [3, 3] rfl rfl)), (1938, S), (1884, S), (1829, S), (1826, .bi (biIter hL [0, 1, 2, 3] rfl)), (1818, .comp .ascii), (1694, .bi (biIndex hL [3, 3, 0, 0, 1, 0, 2, 0, 3, 1, 1, 2, 1, 3, 2] [2, 0] rfl rfl)), (1654, S), (1651, .bi (biIter hL [3, 3, 0, 0, 1, 0] rfl)), (1636, S), (1616, S), (1596, S), (1576, S), (1556, S), (1536, S), (1455, S), (1452, .bi (biEq hL [2, 0] [2, 0] rfl rfl)), (1323, .bi (biIndex hL [3, 3, 0, 0, 1, 0, 2, 0, 3, 1, 1, 2, 1, 3, 2] [2, 1] rfl rfl)), (1283, S), (1280, .bi (biIter hL [3, 3, 0, 0, 1, 0, 2, 0, 3, 1, 1] rfl)), (1265, S), (1245, S), (1225, S), (1205, S), (1185, S), (1165, S), (1145, S), (1125, S), (1105, S), (1085, S), (1065, S), (984, S), (981, .bi (biEq hL [2, 1] [2, 1] rfl rfl)), (852, .bi (biIndex hL [3, 3, 0, 0, 1, 0, 2, 0, 3, 1, 1, 2, 1, 3, 2] [2, 2] rfl rfl)), (779, S), (776, .bi (biRepr hL [2, 2] rfl rfl)), (772, H (.un 2373 121)), (727, H (.un 2373 121)), (681, S), (671, H (.un 727 5)), (403, .bi (biIndex hL [3, 3, 0, 0, 1, 0, 2, 0, 3, 1, 1, 2, 1, 3, 2] [2, 3] rfl rfl)), (330, S), (327, .bi (biRepr hL [2, 3] rfl rfl)), (323, H (.un 671 18)), (278, H (.un 671 18)), (232, S), (222, H (.un 278 5)), (37, S), (1, .meet)]
theorem rb_grow71_6_t (b : Pk) (L : Lt) (hL : LtOk L 4) : NextT (b.V z0.1) (rb_grow71_6 z0.1 b.w L) (rb_grow71_7 z0.1 b.w L) 3445 (rb_grow71_6_h z0.1 b.w L hL) ⟨none, [(2753, .un 222), (2747, .un 278), (2742, .un 323), (2723, .un 671), (2717, .un 727), (2712, .un 772), (2590, .un 2373), (2584, .un 2429), (2579, .un 2474), (2497, .cnt)]⟩ := by intro R p i τ υ; kernel_rfl
theorem rb_grow71_6_ok (b : Pk) (O : (b.V z0.1).Ok) (L : Lt) (hL : LtOk L 4) (hB : Bnd L) : (rb_grow71_6 z0.1 b.w L).Ok (b.V z0.1) := okN O (rb_grow71_6_t b L hL) (rb_grow71_7_ok b O L hL hB) ⟨rfl, rfl, rfl, rfl⟩ (met .nil (by kernel_rfl))
noncomputable def rb_grow71_5 (K : Params → KT) (w : World) (L : Lt) : Ctr := ⟨rbx73 K w L, fun τ => dF (rbx73 K w L τ).code, rbl100 K w L, rbc84 K w L, 1153, fun τ => (.ret (.str (rel L [3, 3, 0, 0, 1, 0, 2, 0, 3, 1, 1, 2, 1, 3, 2, 2, 3]) (τ 2918))), rbl109 K w L, rbc84 K w L, 1435⟩
noncomputable def rb_grow71_5_h (K : Params → KT) (w : World) (L : Lt) (hL : LtOk L 4) : List (Nat × Act) := [(3685, S), (3630, S), (3627, .bi (biIter hL [0, 1, 2, 3] rfl)), (3619, .comp .ascii), (3495, .bi (biIndex hL [3, 3, 0, 0, 1, 0, 2, 0, 3, 1, 1, 2] [2, 0] rfl rfl)), (3455, S), (3452, .bi (biIter hL [3, 3, 0, 0, 1, 0] rfl)), (3437, S), (3417, S), (3397, S), (3377, S), (3357, S), (3337, S), (3256, S), (3253, .bi (biEq hL [2, 0] [2, 0] rfl rfl)), (3124, .bi (biIndex hL [3, 3, 0, 0, 1, 0, 2, 0, 3, 1, 1, 2] [2, 1] rfl rfl)), (3051, S), (3048, .bi (biRepr hL [2, 1] rfl rfl)), (3044, H (.cnt 56)), (2999, H (.cnt 56)), (2953, S), (2943, H (.un 2999 5)), (2675, .bi (biIndex hL [3, 3, 0, 0, 1, 0, 2, 0, 3, 1, 1, 2] [2, 2] rfl rfl)), (2602, S), (2599, .bi (biRepr hL [2, 2] rfl rfl)), (2595, H (.un 2943 18)), (2550, H (.un 2943 18)), (2504, S), (2494, H (.un 2550 5)), (2226, .bi (biIndex hL [3, 3, 0, 0, 1, 0, 2, 0, 3, 1, 1, 2] [2, 3] rfl rfl)), (2153, S), (2150, .bi (biRepr hL [2, 3] rfl rfl)), (2146, H (.un 2494 18)), (2101, H (.un 2494 18)), (2055, S), (2045, H (.un 2101 5)), (1860, S), (1806, S), (1751, S), (1748, .bi (biIter hL [0, 1, 2, 3] rfl)), (1740, .comp .ascii), (1616, .bi (biIndex hL [3, 3, 0, 0, 1, 0, 2, 0, 3, 1, 1, 2, 1] [1, 0] rfl rfl)), (1576, S), (1573, .bi (biIter hL [3, 3, 0, 0] rfl)), (1558, S), (1538, S), (1518, S), (1498, S), (1417, S), (1414, .bi (biEq hL [1, 0] [1, 0] rfl rfl)), (1285, .bi (biIndex hL [3, 3, 0, 0, 1, 0, 2, 0, 3, 1, 1, 2, 1] [1, 1] rfl rfl)), (1245, S), (1242, .bi (biIter hL [3, 3, 0, 0, 1, 0, 2, 0, 3] rfl)), (1227, S), (1207, S), (1187, S), (1167, S), (1147, S), (1127, S), (1107, S), (1087, S), (1067, S), (986, S), (983, .bi (biEq hL [1, 1] [1, 1] rfl rfl)), (854, .bi (biIndex hL [3, 3, 0, 0, 1, 0, 2, 0, 3, 1, 1, 2, 1] [1, 2] rfl rfl)), (814, S), (811, .bi (biIter hL [3, 3, 0, 0, 1, 0, 2, 0, 3, 1] rfl)), (796, S), (776, S), (756, S), (736, S), (716, S), (696, S), (676, S), (656, S), (636, S), (616, S), (535, S), (532, .bi (biEq hL [1, 2] [1, 2] rfl rfl)), (403, .bi (biIndex hL [3, 3, 0, 0, 1, 0, 2, 0, 3, 1, 1, 2, 1] [1, 3] rfl rfl)), (330, S), (327, .bi (biRepr hL [1, 3] rfl rfl)), (323, H (.un 2045 133)), (278, H (.un 2045 133)), (232, S), (222, H (.un 278 5)), (37, S), (1, .meet)]
theorem rb_grow71_5_t (b : Pk) (L : Lt) (hL : LtOk L 4) : NextT (b.V z0.1) (rb_grow71_5 z0.1 b.w L) (rb_grow71_6 z0.1 b.w L) 3704 (rb_grow71_5_h z0.1 b.w L hL) ⟨none, [(2492, .un 222), (2486, .un 278), (2481, .un 323), (2347, .un 2045), (2341, .un 2101), (2336, .un 2146), (2317, .un 2494), (2311, .un 2550), (2306, .un 2595), (2287, .un 2943), (2281, .un 2999), (2276, .un 3044), (2219, .cnt)]⟩ := by intro R p i τ υ; kernel_rfl
theorem rb_grow71_5_ok (b : Pk) (O : (b.V z0.1).Ok) (L : Lt) (hL : LtOk L 4) (hB : Bnd L) : (rb_grow71_5 z0.1 b.w L).Ok (b.V z0.1) := okN O (rb_grow71_5_t b L hL) (rb_grow71_6_ok b O L hL hB) ⟨rfl, rfl, rfl, rfl⟩ (met .nil (by kernel_rfl))
noncomputable def rb_grow71_4 (K : Params → KT) (w : World) (L : Lt) : Ctr := ⟨rbx73 K w L, fun τ => dF (rbx73 K w L τ).code, rbl96 K w L, rbc84 K w L, 1045, fun τ => (.ret (.str (rel L [3, 3, 0, 0, 1, 0, 2, 0, 3, 1, 1, 2, 1, 3, 2, 2, 3]) (τ 2918))), rbl109 K w L, rbc84 K w L, 1435⟩
noncomputable def rb_grow71_4_h (K : Params → KT) (w : World) (L : Lt) (hL : LtOk L 4) : List (Nat × Act) := [(3643, S), (3588, S), (3585, .bi (biIter hL [0, 1, 2, 3] rfl)), (3577, .comp .ascii), (3453, .bi (biIndex hL [3, 3, 0, 0, 1, 0, 2, 0, 3, 1] [1, 0] rfl rfl)), (3413, S), (3410, .bi (biIter hL [3, 3, 0, 0] rfl)), (3395, S), (3375, S), (3355, S), (3335, S), (3254, S), (3251, .bi (biEq hL [1, 0] [1, 0] rfl rfl)), (3122, .bi (biIndex hL [3, 3, 0, 0, 1, 0, 2, 0, 3, 1] [1, 1] rfl rfl)), (3049, S), (3046, .bi (biRepr hL [1, 1] rfl rfl)), (3042, H (.cnt 52)), (2997, H (.cnt 52)), (2951, S), (2941, H (.un 2997 5)), (2673, .bi (biIndex hL [3, 3, 0, 0, 1, 0, 2, 0, 3, 1] [1, 2] rfl rfl)), (2600, S), (2597, .bi (biRepr hL [1, 2] rfl rfl)), (2593, H (.un 2941 18)), (2548, H (.un 2941 18)), (2502, S), (2492, H (.un 2548 5)), (2224, .bi (biIndex hL [3, 3, 0, 0, 1, 0, 2, 0, 3, 1] [1, 3] rfl rfl)), (2151, S), (2148, .bi (biRepr hL [1, 3] rfl rfl)), (2144, H (.un 2492 18)), (2099, H (.un 2492 18)), (2053, S), (2043, H (.un 2099 5)), (1858, S), (1804, S), (1749, S), (1746, .bi (biIter hL [0, 1, 2, 3] rfl)), (1738, .comp .ascii), (1614, .bi (biIndex hL [3, 3, 0, 0, 1, 0, 2, 0, 3, 1, 1] [1, 0] rfl rfl)), (1574, S), (1571, .bi (biIter hL [3, 3, 0, 0] rfl)), (1556, S), (1536, S), (1516, S), (1496, S), (1415, S), (1412, .bi (biEq hL [1, 0] [1, 0] rfl rfl)), (1283, .bi (biIndex hL [3, 3, 0, 0, 1, 0, 2, 0, 3, 1, 1] [1, 1] rfl rfl)), (1243, S), (1240, .bi (biIter hL [3, 3, 0, 0, 1, 0, 2, 0, 3] rfl)), (1225, S), (1205, S), (1185, S), (1165, S), (1145, S), (1125, S), (1105, S), (1085, S), (1065, S), (984, S), (981, .bi (biEq hL [1, 1] [1, 1] rfl rfl)), (852, .bi (biIndex hL [3, 3, 0, 0, 1, 0, 2, 0, 3, 1, 1] [1, 2] rfl rfl)), (779, S), (776, .bi (biRepr hL [1, 2] rfl rfl)), (772, H (.un 2043 94)), (727, H (.un 2043 94)), (681, S), (671, H (.un 727 5)), (403, .bi (biIndex hL [3, 3, 0, 0, 1, 0, 2, 0, 3, 1, 1] [1, 3] rfl rfl)), (330, S), (327, .bi (biRepr hL [1, 3] rfl rfl)), (323, H (.un 671 18)), (278, H (.un 671 18)), (232, S), (222, H (.un 278 5)), (37, S), (1, .meet)]
theorem rb_grow71_4_t (b : Pk) (L : Lt) (hL : LtOk L 4) : NextT (b.V z0.1) (rb_grow71_4 z0.1 b.w L) (rb_grow71_5 z0.1 b.w L) 3662 (rb_grow71_4_h z0.1 b.w L hL) ⟨none, [(2214, .un 222), (2208, .un 278), (2203, .un 323), (2184, .un 671), (2178, .un 727), (2173, .un 772), (2078, .un 2043), (2072, .un 2099), (2067, .un 2144), (2048, .un 2492), (2042, .un 2548), (2037, .un 2593), (2018, .un 2941), (2012, .un 2997), (2007, .un 3042), (1954, .cnt)]⟩ := by intro R p i τ υ; kernel_rfl
theorem rb_grow71_4_ok (b : Pk) (O : (b.V z0.1).Ok) (L : Lt) (hL : LtOk L 4) (hB : Bnd L) : (rb_grow71_4 z0.1 b.w L).Ok (b.V z0.1) := okN O (rb_grow71_4_t b L hL) (rb_grow71_5_ok b O L hL hB) ⟨rfl, rfl, rfl, rfl⟩ (met .nil (by kernel_rfl))
noncomputable def rb_grow71_3 (K : Params → KT) (w : World) (L : Lt) : Ctr := ⟨rbx73 K w L, fun τ => dF (rbx73 K w L τ).code, rbl92 K w L, rbc84 K w L, 949, fun τ => (.ret (.str (rel L [3, 3, 0, 0, 1, 0, 2, 0, 3, 1, 1, 2, 1, 3, 2, 2, 3]) (τ 2918))), rbl109 K w L, rbc84 K w L, 1435⟩
noncomputable def rb_grow71_3_h (K : Params → KT) (w : World) (L : Lt) (hL : LtOk L 4) : List (Nat × Act) := [(3126, S), (3071, S), (3068, .bi (biIter hL [0, 1, 2, 3] rfl)), (3060, .comp .ascii), (2936, .bi (biIndex hL [3, 3, 0, 0, 1, 0, 2, 0] [0, 0] rfl rfl)), (2896, S), (2893, .bi (biIter hL [3, 3] rfl)), (2878, S), (2858, S), (2777, S), (2774, .bi (biEq hL [0, 0] [0, 0] rfl rfl)), (2645, .bi (biIndex hL [3, 3, 0, 0, 1, 0, 2, 0] [0, 1] rfl rfl)), (2605, S), (2602, .bi (biIter hL [3, 3, 0] rfl)), (2587, S), (2567, S), (2547, S), (2466, S), (2463, .bi (biEq hL [0, 1] [0, 1] rfl rfl)), (2334, .bi (biIndex hL [3, 3, 0, 0, 1, 0, 2, 0] [0, 2] rfl rfl)), (2294, S), (2291, .bi (biIter hL [3, 3, 0, 0, 1] rfl)), (2276, S), (2256, S), (2236, S), (2216, S), (2196, S), (2115, S), (2112, .bi (biEq hL [0, 2] [0, 2] rfl rfl)), (1983, .bi (biIndex hL [3, 3, 0, 0, 1, 0, 2, 0] [0, 3] rfl rfl)), (1910, S), (1907, .bi (biRepr hL [0, 3] rfl rfl)), (1903, H (.cnt 102)), (1858, H (.cnt 102)), (1812, S), (1802, H (.un 1858 5)), (1617, S), (1563, S), (1508, S), (1505, .bi (biIter hL [0, 1, 2, 3] rfl)), (1497, .comp .ascii), (1373, .bi (biIndex hL [3, 3, 0, 0, 1, 0, 2, 0, 3] [3, 0] rfl rfl)), (1333, S), (1330, .bi (biIter hL [3] rfl)), (1315, S), (1234, S), (1231, .bi (biEq hL [3, 0] [3, 0] rfl rfl)), (1102, .bi (biIndex hL [3, 3, 0, 0, 1, 0, 2, 0, 3] [3, 1] rfl rfl)), (1029, S), (1026, .bi (biRepr hL [3, 1] rfl rfl)), (1022, H (.un 1802 51)), (977, H (.un 1802 51)), (931, S), (921, H (.un 977 5)), (653, .bi (biIndex hL [3, 3, 0, 0, 1, 0, 2, 0, 3] [3, 2] rfl rfl)), (580, S), (577, .bi (biRepr hL [3, 2] rfl rfl)), (573, H (.un 921 18)), (528, H (.un 921 18)), (482, S), (472, H (.un 528 5)), (204, .bi (biIndex hL [3, 3, 0, 0, 1, 0, 2, 0, 3] [3, 3] rfl rfl)), (164, S), (86, S), (83, .bi (biEq hL [3, 3] [3, 3] rfl rfl)), (37, S), (1, .meet)]
theorem rb_grow71_3_t (b : Pk) (L : Lt) (hL : LtOk L 4) : NextT (b.V z0.1) (rb_grow71_3 z0.1 b.w L) (rb_grow71_4 z0.1 b.w L) 3145 (rb_grow71_3_h z0.1 b.w L hL) ⟨none, [(1930, .un 472), (1924, .un 528), (1919, .un 573), (1900, .un 921), (1894, .un 977), (1889, .un 1022), (1837, .un 1802), (1831, .un 1858), (1826, .un 1903), (1723, .cnt)]⟩ := by intro R p i τ υ; kernel_rfl
theorem rb_grow71_3_ok (b : Pk) (O : (b.V z0.1).Ok) (L : Lt) (hL : LtOk L 4) (hB : Bnd L) : (rb_grow71_3 z0.1 b.w L).Ok (b.V z0.1) := okN O (rb_grow71_3_t b L hL) (rb_grow71_4_ok b O L hL hB) ⟨rfl, rfl, rfl, rfl⟩ (met .nil (by kernel_rfl))
noncomputable def rb_grow71_2 (K : Params → KT) (w : World) (L : Lt) : Ctr := ⟨rbx73 K w L, fun τ => dF (rbx73 K w L τ).code, rbl88 K w L, rbc84 K w L, 835, fun τ => (.ret (.str (rel L [3, 3, 0, 0, 1, 0, 2, 0, 3, 1, 1, 2, 1, 3, 2, 2, 3]) (τ 2918))), rbl109 K w L, rbc84 K w L, 1435⟩
noncomputable def rb_grow71_2_h (K : Params → KT) (w : World) (L : Lt) (hL : LtOk L 4) : List (Nat × Act) := [(3601, S), (3546, S), (3543, .bi (biIter hL [0, 1, 2, 3] rfl)), (3535, .comp .ascii), (3411, .bi (biIndex hL [3, 3, 0, 0, 1, 0] [0, 0] rfl rfl)), (3371, S), (3368, .bi (biIter hL [3, 3] rfl)), (3353, S), (3333, S), (3252, S), (3249, .bi (biEq hL [0, 0] [0, 0] rfl rfl)), (3120, .bi (biIndex hL [3, 3, 0, 0, 1, 0] [0, 1] rfl rfl)), (3080, S), (3077, .bi (biIter hL [3, 3, 0] rfl)), (3062, S), (3042, S), (3022, S), (2941, S), (2938, .bi (biEq hL [0, 1] [0, 1] rfl rfl)), (2809, .bi (biIndex hL [3, 3, 0, 0, 1, 0] [0, 2] rfl rfl)), (2736, S), (2733, .bi (biRepr hL [0, 2] rfl rfl)), (2729, H (.cnt 73)), (2684, H (.cnt 73)), (2638, S), (2628, H (.un 2684 5)), (2360, .bi (biIndex hL [3, 3, 0, 0, 1, 0] [0, 3] rfl rfl)), (2287, S), (2284, .bi (biRepr hL [0, 3] rfl rfl)), (2280, H (.un 2628 18)), (2235, H (.un 2628 18)), (2189, S), (2179, H (.un 2235 5)), (1994, S), (1940, S), (1885, S), (1882, .bi (biIter hL [0, 1, 2, 3] rfl)), (1874, .comp .ascii), (1750, .bi (biIndex hL [3, 3, 0, 0, 1, 0, 2] [2, 0] rfl rfl)), (1677, S), (1674, .bi (biRepr hL [2, 0] rfl rfl)), (1670, H (.un 2179 30)), (1625, H (.un 2179 30)), (1579, S), (1569, H (.un 1625 5)), (1301, .bi (biIndex hL [3, 3, 0, 0, 1, 0, 2] [2, 1] rfl rfl)), (1228, S), (1225, .bi (biRepr hL [2, 1] rfl rfl)), (1221, H (.un 1569 18)), (1176, H (.un 1569 18)), (1130, S), (1120, H (.un 1176 5)), (852, .bi (biIndex hL [3, 3, 0, 0, 1, 0, 2] [2, 2] rfl rfl)), (779, S), (776, .bi (biRepr hL [2, 2] rfl rfl)), (772, H (.un 1120 18)), (727, H (.un 1120 18)), (681, S), (671, H (.un 727 5)), (403, .bi (biIndex hL [3, 3, 0, 0, 1, 0, 2] [2, 3] rfl rfl)), (330, S), (327, .bi (biRepr hL [2, 3] rfl rfl)), (323, H (.un 671 18)), (278, H (.un 671 18)), (232, S), (222, H (.un 278 5)), (37, S), (1, .meet)]
theorem rb_grow71_2_t (b : Pk) (L : Lt) (hL : LtOk L 4) : NextT (b.V z0.1) (rb_grow71_2 z0.1 b.w L) (rb_grow71_3 z0.1 b.w L) 3620 (rb_grow71_2_h z0.1 b.w L hL) ⟨none, [(1718, .un 222), (1712, .un 278), (1707, .un 323), (1688, .un 671), (1682, .un 727), (1677, .un 772), (1658, .un 1120), (1652, .un 1176), (1647, .un 1221), (1628, .un 1569), (1622, .un 1625), (1617, .un 1670), (1586, .un 2179), (1580, .un 2235), (1575, .un 2280), (1556, .un 2628), (1550, .un 2684), (1545, .un 2729), (1471, .cnt)]⟩ := by intro R p i τ υ; kernel_rfl
theorem rb_grow71_2_ok (b : Pk) (O : (b.V z0.1).Ok) (L : Lt) (hL : LtOk L 4) (hB : Bnd L) : (rb_grow71_2 z0.1 b.w L).Ok (b.V z0.1) := okN O (rb_grow71_2_t b L hL) (rb_grow71_3_ok b O L hL hB) ⟨rfl, rfl, rfl, rfl⟩ (met .nil (by kernel_rfl))
noncomputable def rb_grow71_1 (K : Params → KT) (w : World) (L : Lt) : Ctr := ⟨rbx73 K w L, fun τ => dF (rbx73 K w L τ).code, rbl83 K w L, rbc84 K w L, 715, fun τ => (.ret (.str (rel L [3, 3, 0, 0, 1, 0, 2, 0, 3, 1, 1, 2, 1, 3, 2, 2, 3]) (τ 2918))), rbl109 K w L, rbc84 K w L, 1435⟩
noncomputable def rb_grow71_1_h (K : Params → KT) (w : World) (L : Lt) (hL : LtOk L 4) : List (Nat × Act) := [(3739, S), (3684, S), (3681, .bi (biIter hL [0, 1, 2, 3] rfl)), (3673, .comp .ascii), (3549, .bi (biIndex hL [3, 3, 0, 0] [0, 0] rfl rfl)), (3509, S), (3506, .bi (biIter hL [3, 3] rfl)), (3491, S), (3471, S), (3390, S), (3387, .bi (biEq hL [0, 0] [0, 0] rfl rfl)), (3258, .bi (biIndex hL [3, 3, 0, 0] [0, 1] rfl rfl)), (3185, S), (3182, .bi (biRepr hL [0, 1] rfl rfl)), (3178, H (.cnt 48)), (3133, H (.cnt 48)), (3087, S), (3077, H (.un 3133 5)), (2809, .bi (biIndex hL [3, 3, 0, 0] [0, 2] rfl rfl)), (2736, S), (2733, .bi (biRepr hL [0, 2] rfl rfl)), (2729, H (.un 3077 18)), (2684, H (.un 3077 18)), (2638, S), (2628, H (.un 2684 5)), (2360, .bi (biIndex hL [3, 3, 0, 0] [0, 3] rfl rfl)), (2287, S), (2284, .bi (biRepr hL [0, 3] rfl rfl)), (2280, H (.un 2628 18)), (2235, H (.un 2628 18)), (2189, S), (2179, H (.un 2235 5)), (1994, S), (1940, S), (1885, S), (1882, .bi (biIter hL [0, 1, 2, 3] rfl)), (1874, .comp .ascii), (1750, .bi (biIndex hL [3, 3, 0, 0, 1] [1, 0] rfl rfl)), (1677, S), (1674, .bi (biRepr hL [1, 0] rfl rfl)), (1670, H (.un 2179 30)), (1625, H (.un 2179 30)), (1579, S), (1569, H (.un 1625 5)), (1301, .bi (biIndex hL [3, 3, 0, 0, 1] [1, 1] rfl rfl)), (1228, S), (1225, .bi (biRepr hL [1, 1] rfl rfl)), (1221, H (.un 1569 18)), (1176, H (.un 1569 18)), (1130, S), (1120, H (.un 1176 5)), (852, .bi (biIndex hL [3, 3, 0, 0, 1] [1, 2] rfl rfl)), (779, S), (776, .bi (biRepr hL [1, 2] rfl rfl)), (772, H (.un 1120 18)), (727, H (.un 1120 18)), (681, S), (671, H (.un 727 5)), (403, .bi (biIndex hL [3, 3, 0, 0, 1] [1, 3] rfl rfl)), (330, S), (327, .bi (biRepr hL [1, 3] rfl rfl)), (323, H (.un 671 18)), (278, H (.un 671 18)), (232, S), (222, H (.un 278 5)), (37, S), (1, .meet)]
theorem rb_grow71_1_t (b : Pk) (L : Lt) (hL : LtOk L 4) : NextT (b.V z0.1) (rb_grow71_1 z0.1 b.w L) (rb_grow71_2 z0.1 b.w L) 3758 (rb_grow71_1_h z0.1 b.w L hL) ⟨none, [(1466, .un 222), (1460, .un 278), (1455, .un 323), (1436, .un 671), (1430, .un 727), (1425, .un 772), (1406, .un 1120), (1400, .un 1176), (1395, .un 1221), (1376, .un 1569), (1370, .un 1625), (1365, .un 1670), (1334, .un 2179), (1328, .un 2235), (1323, .un 2280), (1304, .un 2628), (1298, .un 2684), (1293, .un 2729), (1274, .un 3077), (1268, .un 3133), (1263, .un 3178), (1214, .cnt)]⟩ := by intro R p i τ υ; kernel_rfl
theorem rb_grow71_1_ok (b : Pk) (O : (b.V z0.1).Ok) (L : Lt) (hL : LtOk L 4) (hB : Bnd L) : (rb_grow71_1 z0.1 b.w L).Ok (b.V z0.1) := okN O (rb_grow71_1_t b L hL) (rb_grow71_2_ok b O L hL hB) ⟨rfl, rfl, rfl, rfl⟩ (met .nil (by kernel_rfl))
noncomputable def rb_grow71_0 (K : Params → KT) (w : World) (L : Lt) : Ctr := ⟨rbx73 K w L, fun τ => dF (rbx73 K w L τ).code, rbl77 K w L, rbc2 K w L, 589, fun τ => (.ret (.str (rel L [3, 3, 0, 0, 1, 0, 2, 0, 3, 1, 1, 2, 1, 3, 2, 2, 3]) (τ 2918))), rbl109 K w L, rbc84 K w L, 1435⟩
noncomputable def rb_grow71_0_h (K : Params → KT) (w : World) (L : Lt) (hL : LtOk L 4) : List (Nat × Act) := [(3720, S), (3665, S), (3662, .bi (biIter hL [0, 1, 2, 3] rfl)), (3654, .comp .ascii), (3530, .bi (biIndex hL [3, 3] [3, 0] rfl rfl)), (3453, S), (3450, .bi (biRepr hL [3, 0] rfl rfl)), (3446, H (.cnt 25)), (3383, H (.cnt 25)), (3337, S), (3327, H (.un 3383 5)), (3059, .bi (biIndex hL [3, 3] [3, 1] rfl rfl)), (2986, S), (2983, .bi (biRepr hL [3, 1] rfl rfl)), (2979, H (.un 3327 18)), (2934, H (.un 3327 18)), (2888, S), (2878, H (.un 2934 5)), (2610, .bi (biIndex hL [3, 3] [3, 2] rfl rfl)), (2537, S), (2534, .bi (biRepr hL [3, 2] rfl rfl)), (2530, H (.un 2878 18)), (2485, H (.un 2878 18)), (2439, S), (2429, H (.un 2485 5)), (2161, .bi (biIndex hL [3, 3] [3, 3] rfl rfl)), (2121, S), (2043, S), (2040, .bi (biEq hL [3, 3] [3, 3] rfl rfl)), (1994, S), (1940, S), (1885, S), (1882, .bi (biIter hL [0, 1, 2, 3] rfl)), (1874, .comp .ascii), (1750, .bi (biIndex hL [3, 3, 0] [0, 0] rfl rfl)), (1677, S), (1674, .bi (biRepr hL [0, 0] rfl rfl)), (1670, H (.un 2429 48)), (1625, H (.un 2429 48)), (1579, S), (1569, H (.un 1625 5)), (1301, .bi (biIndex hL [3, 3, 0] [0, 1] rfl rfl)), (1228, S), (1225, .bi (biRepr hL [0, 1] rfl rfl)), (1221, H (.un 1569 18)), (1176, H (.un 1569 18)), (1130, S), (1120, H (.un 1176 5)), (852, .bi (biIndex hL [3, 3, 0] [0, 2] rfl rfl)), (779, S), (776, .bi (biRepr hL [0, 2] rfl rfl)), (772, H (.un 1120 18)), (727, H (.un 1120 18)), (681, S), (671, H (.un 727 5)), (403, .bi (biIndex hL [3, 3, 0] [0, 3] rfl rfl)), (330, S), (327, .bi (biRepr hL [0, 3] rfl rfl)), (323, H (.un 671 18)), (278, H (.un 671 18)), (232, S), (222, H (.un 278 5)), (37, S), (1, .meet)]
theorem rb_grow71_0_t (b : Pk) (L : Lt) (hL : LtOk L 4) : NextT (b.V z0.1) (rb_grow71_0 z0.1 b.w L) (rb_grow71_1 z0.1 b.w L) 3739 (rb_grow71_0_h z0.1 b.w L hL) ⟨none, [(1209, .un 222), (1203, .un 278), (1198, .un 323), (1179, .un 671), (1173, .un 727), (1168, .un 772), (1149, .un 1120), (1143, .un 1176), (1138, .un 1221), (1119, .un 1569), (1113, .un 1625), (1108, .un 1670), (1059, .un 2429), (1053, .un 2485), (1048, .un 2530), (1029, .un 2878), (1023, .un 2934), (1018, .un 2979), (999, .un 3327), (993, .un 3383), (979, .un 3446), (953, .cnt)]⟩ := by intro R p i τ υ; kernel_rfl
theorem rb_grow71_0_ok (b : Pk) (O : (b.V z0.1).Ok) (L : Lt) (hL : LtOk L 4) (hB : Bnd L) : (rb_grow71_0 z0.1 b.w L).Ok (b.V z0.1) := okN O (rb_grow71_0_t b L hL) (rb_grow71_1_ok b O L hL hB) ⟨rfl, rfl, rfl, rfl⟩ (met .nil (by kernel_rfl))
noncomputable def rbe110 (K : Params → KT) (w : World) (L : Lt) (τ : Nat → Nat) : Env := ⟨(fdK K w 98).scope, 1448, 3, [], ⟨⟨[97, 50, 98, 95, 98, 97, 115, 101, 54, 52, 46, 60, 108, 111, 99, 97, 108, 115, 62, 46]⟩⟩, some 98, (.ref 97), some 1448, 0⟩
noncomputable def rbk111 (K : Params → KT) (w : World) (L : Lt) (τ : Nat → Nat) : Code := loopC (stmtAt (bodyK K w 98) [7]) (.ref 1452) (rbe110 K w L τ)
noncomputable def rbe112 (K : Params → KT) (w : World) (L : Lt) (τ : Nat → Nat) : Env := ⟨(fdK K w 106).scope, 1446, 3, [], ⟨⟨[98, 54, 52, 100, 101, 99, 111, 100, 101, 46, 60, 108, 111, 99, 97, 108, 115, 62, 46]⟩⟩, some 106, (.ref 105), some 1446, 0⟩
noncomputable def rbx113 (K : Params → KT) (w : World) (L : Lt) (τ : Nat → Nat) : PySem.Ctx := ctxC (.call (.ref 90) ⟨[.int (bv L 0) (τ 3143)], []⟩) [((rbk111 K w L τ), ⟨98, 18, 98, 37⟩), ((funcC (bodyK K w 98) (rbe110 K w L τ)), ⟨84, 19, 84, 29⟩), ((funcC (bodyK K w 106) (rbe112 K w L τ)), ⟨137, 11, 137, 46⟩), ((funcC (bodyK K w 135) (rbe0 K w L τ)), ⟨187, 11, 187, 88⟩), (callerC, ⟨0, 0, 0, 0⟩)]
noncomputable def rb_v110 (K : Params → KT) (w : World) (L : Lt) : FnC := ⟨rbx113 K w L, 1453, fun τ => .ret (.int (L.v 0) (τ 3150)), 1454, rbc84 K w L, fun _ => []⟩
noncomputable def rb_v110_U_h (K : Params → KT) (w : World) (L : Lt) (c : Cls L 0 65 90 65) : List (Nat × Act) := [(23, S), (20, .bi (cLeT c 65 rfl)), (16, S), (13, .bi (cGeT c 90 rfl)), (4, .bi (cSub c 65 rfl))]
theorem rb_v110_U_t (b : Pk) (L : Lt) (c : Cls L 0 65 90 65) : FnT (b.V z0.1) (rb_v110 z0.1 b.w L) 40 (rb_v110_U_h z0.1 b.w L c) ⟨none, [(3146, .cnt)]⟩ := by intro h₁ R p i τ υ; kernel_rfl
theorem rb_v110_U_ok (b : Pk) (O : (b.V z0.1).Ok) (L : Lt) (c : Cls L 0 65 90 65) : (rb_v110 z0.1 b.w L).Ok (b.V z0.1) := okFn O (rb_v110_U_t b L c) (by kernel_rfl) (by kernel_rfl)
theorem rb_v110_ok (b : Pk) (O : (b.V z0.1).Ok) (L : Lt) (hL : LtOk L 4) (hB : Bnd L) : (rb_v110 z0.1 b.w L).Ok (b.V z0.1) := by
  have z := hB.v0
  rcases cls_of hL (r := 0) rfl with ⟨_, c⟩ | ⟨e, _, c⟩ | ⟨e, _, c⟩ | ⟨e, c⟩ | ⟨e, c⟩
  · exact rb_v110_U_ok b O L c
  · omega
  · omega
  · omega
  · omega
noncomputable def rbx115 (K : Params → KT) (w : World) (L : Lt) (τ : Nat → Nat) : PySem.Ctx := ctxC (.call (.ref 90) ⟨[.int (bv L 0) (τ 3162)], []⟩) [((rbk111 K w L τ), ⟨98, 18, 98, 37⟩), ((funcC (bodyK K w 98) (rbe110 K w L τ)), ⟨84, 19, 84, 29⟩), ((funcC (bodyK K w 106) (rbe112 K w L τ)), ⟨137, 11, 137, 46⟩), ((funcC (bodyK K w 135) (rbe0 K w L τ)), ⟨187, 11, 187, 88⟩), (callerC, ⟨0, 0, 0, 0⟩)]
noncomputable def rb_v115 (K : Params → KT) (w : World) (L : Lt) : FnC := ⟨rbx115 K w L, 1454, fun τ => .ret (.int (L.v 0) (τ 3169)), 1455, rbc84 K w L, fun _ => []⟩
noncomputable def rb_v115_U_h (K : Params → KT) (w : World) (L : Lt) (c : Cls L 0 65 90 65) : List (Nat × Act) := [(23, S), (20, .bi (cLeT c 65 rfl)), (16, S), (13, .bi (cGeT c 90 rfl)), (4, .bi (cSub c 65 rfl))]
theorem rb_v115_U_t (b : Pk) (L : Lt) (c : Cls L 0 65 90 65) : FnT (b.V z0.1) (rb_v115 z0.1 b.w L) 40 (rb_v115_U_h z0.1 b.w L c) ⟨none, [(3165, .cnt)]⟩ := by intro h₁ R p i τ υ; kernel_rfl
theorem rb_v115_U_ok (b : Pk) (O : (b.V z0.1).Ok) (L : Lt) (c : Cls L 0 65 90 65) : (rb_v115 z0.1 b.w L).Ok (b.V z0.1) := okFn O (rb_v115_U_t b L c) (by kernel_rfl) (by kernel_rfl)
theorem rb_v115_ok (b : Pk) (O : (b.V z0.1).Ok) (L : Lt) (hL : LtOk L 4) (hB : Bnd L) : (rb_v115 z0.1 b.w L).Ok (b.V z0.1) := by
  have z := hB.v0
  rcases cls_of hL (r := 0) rfl with ⟨_, c⟩ | ⟨e, _, c⟩ | ⟨e, _, c⟩ | ⟨e, c⟩ | ⟨e, c⟩
  · exact rb_v115_U_ok b O L c
  · omega
  · omega
  · omega
  · omega
noncomputable def rbx117 (K : Params → KT) (w : World) (L : Lt) (τ : Nat → Nat) : PySem.Ctx := ctxC (.call (.ref 90) ⟨[.int (bv L 1) (τ 3189)], []⟩) [((rbk111 K w L τ), ⟨98, 18, 98, 37⟩), ((funcC (bodyK K w 98) (rbe110 K w L τ)), ⟨84, 19, 84, 29⟩), ((funcC (bodyK K w 106) (rbe112 K w L τ)), ⟨137, 11, 137, 46⟩), ((funcC (bodyK K w 135) (rbe0 K w L τ)), ⟨187, 11, 187, 88⟩), (callerC, ⟨0, 0, 0, 0⟩)]
noncomputable def rb_v117 (K : Params → KT) (w : World) (L : Lt) : FnC := ⟨rbx117 K w L, 1455, fun τ => .ret (.int (L.v 1) (τ 3198)), 1456, rbc84 K w L, fun _ => []⟩
noncomputable def rb_v117_U_h (K : Params → KT) (w : World) (L : Lt) (c : Cls L 1 65 90 65) : List (Nat × Act) := [(23, S), (20, .bi (cLeT c 65 rfl)), (16, S), (13, .bi (cGeT c 90 rfl)), (4, .bi (cSub c 65 rfl))]
theorem rb_v117_U_t (b : Pk) (L : Lt) (c : Cls L 1 65 90 65) : FnT (b.V z0.1) (rb_v117 z0.1 b.w L) 40 (rb_v117_U_h z0.1 b.w L c) ⟨none, [(3194, .cnt)]⟩ := by intro h₁ R p i τ υ; kernel_rfl
theorem rb_v117_U_ok (b : Pk) (O : (b.V z0.1).Ok) (L : Lt) (c : Cls L 1 65 90 65) : (rb_v117 z0.1 b.w L).Ok (b.V z0.1) := okFn O (rb_v117_U_t b L c) (by kernel_rfl) (by kernel_rfl)
noncomputable def rb_v117_Lo_h (K : Params → KT) (w : World) (L : Lt) (c : Cls L 1 97 122 71) : List (Nat × Act) := [(40, S), (37, .bi (cLeT c 65 rfl)), (33, S), (30, .bi (cGeF c 90 rfl)), (23, S), (20, .bi (cLeT c 97 rfl)), (16, S), (13, .bi (cGeT c 122 rfl)), (4, .bi (cSub c 71 rfl))]
theorem rb_v117_Lo_t (b : Pk) (L : Lt) (c : Cls L 1 97 122 71) : FnT (b.V z0.1) (rb_v117 z0.1 b.w L) 57 (rb_v117_Lo_h z0.1 b.w L c) ⟨none, [(3192, .cnt)]⟩ := by intro h₁ R p i τ υ; kernel_rfl
theorem rb_v117_Lo_ok (b : Pk) (O : (b.V z0.1).Ok) (L : Lt) (c : Cls L 1 97 122 71) : (rb_v117 z0.1 b.w L).Ok (b.V z0.1) := okFn O (rb_v117_Lo_t b L c) (by kernel_rfl) (by kernel_rfl)
theorem rb_v117_ok (b : Pk) (O : (b.V z0.1).Ok) (L : Lt) (hL : LtOk L 4) (hB : Bnd L) : (rb_v117 z0.1 b.w L).Ok (b.V z0.1) := by
  have z := hB.v1
  rcases cls_of hL (r := 1) rfl with ⟨_, c⟩ | ⟨e, _, c⟩ | ⟨e, _, c⟩ | ⟨e, c⟩ | ⟨e, c⟩
  · exact rb_v117_U_ok b O L c
  · exact rb_v117_Lo_ok b O L c
  · omega
  · omega
  · omega
noncomputable def rbx119 (K : Params → KT) (w : World) (L : Lt) (τ : Nat → Nat) : PySem.Ctx := ctxC (.call (.ref 90) ⟨[.int (bv L 0) (τ 3219)], []⟩) [((rbk111 K w L τ), ⟨98, 18, 98, 37⟩), ((funcC (bodyK K w 98) (rbe110 K w L τ)), ⟨84, 19, 84, 29⟩), ((funcC (bodyK K w 106) (rbe112 K w L τ)), ⟨137, 11, 137, 46⟩), ((funcC (bodyK K w 135) (rbe0 K w L τ)), ⟨187, 11, 187, 88⟩), (callerC, ⟨0, 0, 0, 0⟩)]
noncomputable def rb_v119 (K : Params → KT) (w : World) (L : Lt) : FnC := ⟨rbx119 K w L, 1456, fun τ => .ret (.int (L.v 0) (τ 3226)), 1457, rbc84 K w L, fun _ => []⟩
noncomputable def rb_v119_U_h (K : Params → KT) (w : World) (L : Lt) (c : Cls L 0 65 90 65) : List (Nat × Act) := [(23, S), (20, .bi (cLeT c 65 rfl)), (16, S), (13, .bi (cGeT c 90 rfl)), (4, .bi (cSub c 65 rfl))]
theorem rb_v119_U_t (b : Pk) (L : Lt) (c : Cls L 0 65 90 65) : FnT (b.V z0.1) (rb_v119 z0.1 b.w L) 40 (rb_v119_U_h z0.1 b.w L c) ⟨none, [(3222, .cnt)]⟩ := by intro h₁ R p i τ υ; kernel_rfl
theorem rb_v119_U_ok (b : Pk) (O : (b.V z0.1).Ok) (L : Lt) (c : Cls L 0 65 90 65) : (rb_v119 z0.1 b.w L).Ok (b.V z0.1) := okFn O (rb_v119_U_t b L c) (by kernel_rfl) (by kernel_rfl)
theorem rb_v119_ok (b : Pk) (O : (b.V z0.1).Ok) (L : Lt) (hL : LtOk L 4) (hB : Bnd L) : (rb_v119 z0.1 b.w L).Ok (b.V z0.1) := by
  have z := hB.v0
  rcases cls_of hL (r := 0) rfl with ⟨_, c⟩ | ⟨e, _, c⟩ | ⟨e, _, c⟩ | ⟨e, c⟩ | ⟨e, c⟩
  · exact rb_v119_U_ok b O L c
  · omega
  · omega
  · omega
  · omega
noncomputable def rbx121 (K : Params → KT) (w : World) (L : Lt) (τ : Nat → Nat) : PySem.Ctx := ctxC (.call (.ref 90) ⟨[.int (bv L 2) (τ 3244)], []⟩) [((rbk111 K w L τ), ⟨98, 18, 98, 37⟩), ((funcC (bodyK K w 98) (rbe110 K w L τ)), ⟨84, 19, 84, 29⟩), ((funcC (bodyK K w 106) (rbe112 K w L τ)), ⟨137, 11, 137, 46⟩), ((funcC (bodyK K w 135) (rbe0 K w L τ)), ⟨187, 11, 187, 88⟩), (callerC, ⟨0, 0, 0, 0⟩)]
noncomputable def rb_v121 (K : Params → KT) (w : World) (L : Lt) : FnC := ⟨rbx121 K w L, 1457, fun τ => .ret (.int (L.v 2) (τ 3253)), 1458, rbc84 K w L, fun _ => []⟩
noncomputable def rb_v121_U_h (K : Params → KT) (w : World) (L : Lt) (c : Cls L 2 65 90 65) : List (Nat × Act) := [(23, S), (20, .bi (cLeT c 65 rfl)), (16, S), (13, .bi (cGeT c 90 rfl)), (4, .bi (cSub c 65 rfl))]
theorem rb_v121_U_t (b : Pk) (L : Lt) (c : Cls L 2 65 90 65) : FnT (b.V z0.1) (rb_v121 z0.1 b.w L) 40 (rb_v121_U_h z0.1 b.w L c) ⟨none, [(3249, .cnt)]⟩ := by intro h₁ R p i τ υ; kernel_rfl
theorem rb_v121_U_ok (b : Pk) (O : (b.V z0.1).Ok) (L : Lt) (c : Cls L 2 65 90 65) : (rb_v121 z0.1 b.w L).Ok (b.V z0.1) := okFn O (rb_v121_U_t b L c) (by kernel_rfl) (by kernel_rfl)
noncomputable def rb_v121_Lo_h (K : Params → KT) (w : World) (L : Lt) (c : Cls L 2 97 122 71) : List (Nat × Act) := [(40, S), (37, .bi (cLeT c 65 rfl)), (33, S), (30, .bi (cGeF c 90 rfl)), (23, S), (20, .bi (cLeT c 97 rfl)), (16, S), (13, .bi (cGeT c 122 rfl)), (4, .bi (cSub c 71 rfl))]
theorem rb_v121_Lo_t (b : Pk) (L : Lt) (c : Cls L 2 97 122 71) : FnT (b.V z0.1) (rb_v121 z0.1 b.w L) 57 (rb_v121_Lo_h z0.1 b.w L c) ⟨none, [(3247, .cnt)]⟩ := by intro h₁ R p i τ υ; kernel_rfl
theorem rb_v121_Lo_ok (b : Pk) (O : (b.V z0.1).Ok) (L : Lt) (c : Cls L 2 97 122 71) : (rb_v121 z0.1 b.w L).Ok (b.V z0.1) := okFn O (rb_v121_Lo_t b L c) (by kernel_rfl) (by kernel_rfl)
theorem rb_v121_ok (b : Pk) (O : (b.V z0.1).Ok) (L : Lt) (hL : LtOk L 4) (hB : Bnd L) : (rb_v121 z0.1 b.w L).Ok (b.V z0.1) := by
  have z := hB.v2
  rcases cls_of hL (r := 2) rfl with ⟨_, c⟩ | ⟨e, _, c⟩ | ⟨e, _, c⟩ | ⟨e, c⟩ | ⟨e, c⟩
  · exact rb_v121_U_ok b O L c
  · exact rb_v121_Lo_ok b O L c
  · omega
  · omega
  · omega
noncomputable def rbx123 (K : Params → KT) (w : World) (L : Lt) (τ : Nat → Nat) : PySem.Ctx := ctxC (.call (.ref 90) ⟨[.int (bv L 0) (τ 3265)], []⟩) [((rbk111 K w L τ), ⟨98, 18, 98, 37⟩), ((funcC (bodyK K w 98) (rbe110 K w L τ)), ⟨84, 19, 84, 29⟩), ((funcC (bodyK K w 106) (rbe112 K w L τ)), ⟨137, 11, 137, 46⟩), ((funcC (bodyK K w 135) (rbe0 K w L τ)), ⟨187, 11, 187, 88⟩), (callerC, ⟨0, 0, 0, 0⟩)]
noncomputable def rb_v123 (K : Params → KT) (w : World) (L : Lt) : FnC := ⟨rbx123 K w L, 1458, fun τ => .ret (.int (L.v 0) (τ 3272)), 1459, rbc84 K w L, fun _ => []⟩
noncomputable def rb_v123_U_h (K : Params → KT) (w : World) (L : Lt) (c : Cls L 0 65 90 65) : List (Nat × Act) := [(23, S), (20, .bi (cLeT c 65 rfl)), (16, S), (13, .bi (cGeT c 90 rfl)), (4, .bi (cSub c 65 rfl))]
theorem rb_v123_U_t (b : Pk) (L : Lt) (c : Cls L 0 65 90 65) : FnT (b.V z0.1) (rb_v123 z0.1 b.w L) 40 (rb_v123_U_h z0.1 b.w L c) ⟨none, [(3268, .cnt)]⟩ := by intro h₁ R p i τ υ; kernel_rfl
theorem rb_v123_U_ok (b : Pk) (O : (b.V z0.1).Ok) (L : Lt) (c : Cls L 0 65 90 65) : (rb_v123 z0.1 b.w L).Ok (b.V z0.1) := okFn O (rb_v123_U_t b L c) (by kernel_rfl) (by kernel_rfl)
theorem rb_v123_ok (b : Pk) (O : (b.V z0.1).Ok) (L : Lt) (hL : LtOk L 4) (hB : Bnd L) : (rb_v123 z0.1 b.w L).Ok (b.V z0.1) := by
  have z := hB.v0
  rcases cls_of hL (r := 0) rfl with ⟨_, c⟩ | ⟨e, _, c⟩ | ⟨e, _, c⟩ | ⟨e, c⟩ | ⟨e, c⟩
  · exact rb_v123_U_ok b O L c
  · omega
  · omega
  · omega
  · omega
noncomputable def rbx125 (K : Params → KT) (w : World) (L : Lt) (τ : Nat → Nat) : PySem.Ctx := ctxC (.call (.ref 90) ⟨[.int (bv L 3) (τ 3292)], []⟩) [((rbk111 K w L τ), ⟨98, 18, 98, 37⟩), ((funcC (bodyK K w 98) (rbe110 K w L τ)), ⟨84, 19, 84, 29⟩), ((funcC (bodyK K w 106) (rbe112 K w L τ)), ⟨137, 11, 137, 46⟩), ((funcC (bodyK K w 135) (rbe0 K w L τ)), ⟨187, 11, 187, 88⟩), (callerC, ⟨0, 0, 0, 0⟩)]
noncomputable def rb_v125 (K : Params → KT) (w : World) (L : Lt) : FnC := ⟨rbx125 K w L, 1459, fun τ => .ret (.int (L.v 3) (τ 3301)), 1460, rbc84 K w L, fun _ => []⟩
noncomputable def rb_v125_U_h (K : Params → KT) (w : World) (L : Lt) (c : Cls L 3 65 90 65) : List (Nat × Act) := [(23, S), (20, .bi (cLeT c 65 rfl)), (16, S), (13, .bi (cGeT c 90 rfl)), (4, .bi (cSub c 65 rfl))]
theorem rb_v125_U_t (b : Pk) (L : Lt) (c : Cls L 3 65 90 65) : FnT (b.V z0.1) (rb_v125 z0.1 b.w L) 40 (rb_v125_U_h z0.1 b.w L c) ⟨none, [(3297, .cnt)]⟩ := by intro h₁ R p i τ υ; kernel_rfl
theorem rb_v125_U_ok (b : Pk) (O : (b.V z0.1).Ok) (L : Lt) (c : Cls L 3 65 90 65) : (rb_v125 z0.1 b.w L).Ok (b.V z0.1) := okFn O (rb_v125_U_t b L c) (by kernel_rfl) (by kernel_rfl)
noncomputable def rb_v125_Lo_h (K : Params → KT) (w : World) (L : Lt) (c : Cls L 3 97 122 71) : List (Nat × Act) := [(40, S), (37, .bi (cLeT c 65 rfl)), (33, S), (30, .bi (cGeF c 90 rfl)), (23, S), (20, .bi (cLeT c 97 rfl)), (16, S), (13, .bi (cGeT c 122 rfl)), (4, .bi (cSub c 71 rfl))]
theorem rb_v125_Lo_t (b : Pk) (L : Lt) (c : Cls L 3 97 122 71) : FnT (b.V z0.1) (rb_v125 z0.1 b.w L) 57 (rb_v125_Lo_h z0.1 b.w L c) ⟨none, [(3295, .cnt)]⟩ := by intro h₁ R p i τ υ; kernel_rfl
theorem rb_v125_Lo_ok (b : Pk) (O : (b.V z0.1).Ok) (L : Lt) (c : Cls L 3 97 122 71) : (rb_v125 z0.1 b.w L).Ok (b.V z0.1) := okFn O (rb_v125_Lo_t b L c) (by kernel_rfl) (by kernel_rfl)
noncomputable def rb_v125_D_h (K : Params → KT) (w : World) (L : Lt) (c : Cls L 3 48 57 (-4)) : List (Nat × Act) := [(43, S), (40, .bi (cLeF c 65 rfl)), (33, S), (30, .bi (cLeF c 97 rfl)), (23, S), (20, .bi (cLeT c 48 rfl)), (16, S), (13, .bi (cGeT c 57 rfl)), (4, .bi (cAdd c 4 rfl))]
theorem rb_v125_D_t (b : Pk) (L : Lt) (c : Cls L 3 48 57 (-4)) : FnT (b.V z0.1) (rb_v125 z0.1 b.w L) 60 (rb_v125_D_h z0.1 b.w L c) ⟨none, [(3295, .cnt)]⟩ := by intro h₁ R p i τ υ; kernel_rfl
theorem rb_v125_D_ok (b : Pk) (O : (b.V z0.1).Ok) (L : Lt) (c : Cls L 3 48 57 (-4)) : (rb_v125 z0.1 b.w L).Ok (b.V z0.1) := okFn O (rb_v125_D_t b L c) (by kernel_rfl) (by kernel_rfl)
noncomputable def rb_v125_P_h (K : Params → KT) (w : World) (L : Lt) : List (Nat × Act) := [(34, S), (25, S), (16, S), (7, S)]
theorem rb_v125_P_t (b : Pk) (L : Lt) : FnT (b.V z0.1) (rb_v125 z0.1 b.w (setL L 3 62 43)) 51 (rb_v125_P_h z0.1 b.w (setL L 3 62 43)) ⟨none, [(3296, .cnt)]⟩ := by intro h₁ R p i τ υ; kernel_rfl
theorem rb_v125_P_ok (b : Pk) (O : (b.V z0.1).Ok) (L : Lt) : (rb_v125 z0.1 b.w (setL L 3 62 43)).Ok (b.V z0.1) := okFn O (rb_v125_P_t b L) (by kernel_rfl) (by kernel_rfl)
noncomputable def rb_v125_S_h (K : Params → KT) (w : World) (L : Lt) : List (Nat × Act) := [(43, S), (34, S), (25, S), (16, S), (7, S)]
theorem rb_v125_S_t (b : Pk) (L : Lt) : FnT (b.V z0.1) (rb_v125 z0.1 b.w (setL L 3 63 47)) 60 (rb_v125_S_h z0.1 b.w (setL L 3 63 47)) ⟨none, [(3295, .cnt)]⟩ := by intro h₁ R p i τ υ; kernel_rfl
theorem rb_v125_S_ok (b : Pk) (O : (b.V z0.1).Ok) (L : Lt) : (rb_v125 z0.1 b.w (setL L 3 63 47)).Ok (b.V z0.1) := okFn O (rb_v125_S_t b L) (by kernel_rfl) (by kernel_rfl)
theorem rb_v125_ok (b : Pk) (O : (b.V z0.1).Ok) (L : Lt) (hL : LtOk L 4) (hB : Bnd L) : (rb_v125 z0.1 b.w L).Ok (b.V z0.1) := by
  have z := hB.v3
  rcases cls_of hL (r := 3) rfl with ⟨_, c⟩ | ⟨e, _, c⟩ | ⟨e, _, c⟩ | ⟨e, c⟩ | ⟨e, c⟩
  · exact rb_v125_U_ok b O L c
  · exact rb_v125_Lo_ok b O L c
  · exact rb_v125_D_ok b O L c
  · have z := rb_v125_P_ok b O L
    rwa [setL_eq e c] at z
  · have z := rb_v125_S_ok b O L
    rwa [setL_eq e c] at z
noncomputable def rbx127 (K : Params → KT) (w : World) (L : Lt) (τ : Nat → Nat) : PySem.Ctx := ctxC (.call (.ref 90) ⟨[.int (bv L 1) (τ 3322)], []⟩) [((rbk111 K w L τ), ⟨98, 18, 98, 37⟩), ((funcC (bodyK K w 98) (rbe110 K w L τ)), ⟨84, 19, 84, 29⟩), ((funcC (bodyK K w 106) (rbe112 K w L τ)), ⟨137, 11, 137, 46⟩), ((funcC (bodyK K w 135) (rbe0 K w L τ)), ⟨187, 11, 187, 88⟩), (callerC, ⟨0, 0, 0, 0⟩)]
noncomputable def rb_v127 (K : Params → KT) (w : World) (L : Lt) : FnC := ⟨rbx127 K w L, 1460, fun τ => .ret (.int (L.v 1) (τ 3331)), 1461, rbc84 K w L, fun _ => []⟩
noncomputable def rb_v127_U_h (K : Params → KT) (w : World) (L : Lt) (c : Cls L 1 65 90 65) : List (Nat × Act) := [(23, S), (20, .bi (cLeT c 65 rfl)), (16, S), (13, .bi (cGeT c 90 rfl)), (4, .bi (cSub c 65 rfl))]
theorem rb_v127_U_t (b : Pk) (L : Lt) (c : Cls L 1 65 90 65) : FnT (b.V z0.1) (rb_v127 z0.1 b.w L) 40 (rb_v127_U_h z0.1 b.w L c) ⟨none, [(3327, .cnt)]⟩ := by intro h₁ R p i τ υ; kernel_rfl
theorem rb_v127_U_ok (b : Pk) (O : (b.V z0.1).Ok) (L : Lt) (c : Cls L 1 65 90 65) : (rb_v127 z0.1 b.w L).Ok (b.V z0.1) := okFn O (rb_v127_U_t b L c) (by kernel_rfl) (by kernel_rfl)
noncomputable def rb_v127_Lo_h (K : Params → KT) (w : World) (L : Lt) (c : Cls L 1 97 122 71) : List (Nat × Act) := [(40, S), (37, .bi (cLeT c 65 rfl)), (33, S), (30, .bi (cGeF c 90 rfl)), (23, S), (20, .bi (cLeT c 97 rfl)), (16, S), (13, .bi (cGeT c 122 rfl)), (4, .bi (cSub c 71 rfl))]
theorem rb_v127_Lo_t (b : Pk) (L : Lt) (c : Cls L 1 97 122 71) : FnT (b.V z0.1) (rb_v127 z0.1 b.w L) 57 (rb_v127_Lo_h z0.1 b.w L c) ⟨none, [(3325, .cnt)]⟩ := by intro h₁ R p i τ υ; kernel_rfl
theorem rb_v127_Lo_ok (b : Pk) (O : (b.V z0.1).Ok) (L : Lt) (c : Cls L 1 97 122 71) : (rb_v127 z0.1 b.w L).Ok (b.V z0.1) := okFn O (rb_v127_Lo_t b L c) (by kernel_rfl) (by kernel_rfl)
theorem rb_v127_ok (b : Pk) (O : (b.V z0.1).Ok) (L : Lt) (hL : LtOk L 4) (hB : Bnd L) : (rb_v127 z0.1 b.w L).Ok (b.V z0.1) := by
  have z := hB.v1
  rcases cls_of hL (r := 1) rfl with ⟨_, c⟩ | ⟨e, _, c⟩ | ⟨e, _, c⟩ | ⟨e, c⟩ | ⟨e, c⟩
  · exact rb_v127_U_ok b O L c
  · exact rb_v127_Lo_ok b O L c
  · omega
  · omega
  · omega
noncomputable def rbx129 (K : Params → KT) (w : World) (L : Lt) (τ : Nat → Nat) : PySem.Ctx := ctxC (.call (.ref 90) ⟨[.int (bv L 1) (τ 3349)], []⟩) [((rbk111 K w L τ), ⟨98, 18, 98, 37⟩), ((funcC (bodyK K w 98) (rbe110 K w L τ)), ⟨84, 19, 84, 29⟩), ((funcC (bodyK K w 106) (rbe112 K w L τ)), ⟨137, 11, 137, 46⟩), ((funcC (bodyK K w 135) (rbe0 K w L τ)), ⟨187, 11, 187, 88⟩), (callerC, ⟨0, 0, 0, 0⟩)]
noncomputable def rb_v129 (K : Params → KT) (w : World) (L : Lt) : FnC := ⟨rbx129 K w L, 1461, fun τ => .ret (.int (L.v 1) (τ 3358)), 1462, rbc84 K w L, fun _ => []⟩
noncomputable def rb_v129_U_h (K : Params → KT) (w : World) (L : Lt) (c : Cls L 1 65 90 65) : List (Nat × Act) := [(23, S), (20, .bi (cLeT c 65 rfl)), (16, S), (13, .bi (cGeT c 90 rfl)), (4, .bi (cSub c 65 rfl))]
theorem rb_v129_U_t (b : Pk) (L : Lt) (c : Cls L 1 65 90 65) : FnT (b.V z0.1) (rb_v129 z0.1 b.w L) 40 (rb_v129_U_h z0.1 b.w L c) ⟨none, [(3354, .cnt)]⟩ := by intro h₁ R p i τ υ; kernel_rfl
theorem rb_v129_U_ok (b : Pk) (O : (b.V z0.1).Ok) (L : Lt) (c : Cls L 1 65 90 65) : (rb_v129 z0.1 b.w L).Ok (b.V z0.1) := okFn O (rb_v129_U_t b L c) (by kernel_rfl) (by kernel_rfl)
noncomputable def rb_v129_Lo_h (K : Params → KT) (w : World) (L : Lt) (c : Cls L 1 97 122 71) : List (Nat × Act) := [(40, S), (37, .bi (cLeT c 65 rfl)), (33, S), (30, .bi (cGeF c 90 rfl)), (23, S), (20, .bi (cLeT c 97 rfl)), (16, S), (13, .bi (cGeT c 122 rfl)), (4, .bi (cSub c 71 rfl))]
theorem rb_v129_Lo_t (b : Pk) (L : Lt) (c : Cls L 1 97 122 71) : FnT (b.V z0.1) (rb_v129 z0.1 b.w L) 57 (rb_v129_Lo_h z0.1 b.w L c) ⟨none, [(3352, .cnt)]⟩ := by intro h₁ R p i τ υ; kernel_rfl
theorem rb_v129_Lo_ok (b : Pk) (O : (b.V z0.1).Ok) (L : Lt) (c : Cls L 1 97 122 71) : (rb_v129 z0.1 b.w L).Ok (b.V z0.1) := okFn O (rb_v129_Lo_t b L c) (by kernel_rfl) (by kernel_rfl)
theorem rb_v129_ok (b : Pk) (O : (b.V z0.1).Ok) (L : Lt) (hL : LtOk L 4) (hB : Bnd L) : (rb_v129 z0.1 b.w L).Ok (b.V z0.1) := by
  have z := hB.v1
  rcases cls_of hL (r := 1) rfl with ⟨_, c⟩ | ⟨e, _, c⟩ | ⟨e, _, c⟩ | ⟨e, c⟩ | ⟨e, c⟩
  · exact rb_v129_U_ok b O L c
  · exact rb_v129_Lo_ok b O L c
  · omega
  · omega
  · omega
noncomputable def rbx131 (K : Params → KT) (w : World) (L : Lt) (τ : Nat → Nat) : PySem.Ctx := ctxC (.call (.ref 90) ⟨[.int (bv L 2) (τ 3370)], []⟩) [((rbk111 K w L τ), ⟨98, 18, 98, 37⟩), ((funcC (bodyK K w 98) (rbe110 K w L τ)), ⟨84, 19, 84, 29⟩), ((funcC (bodyK K w 106) (rbe112 K w L τ)), ⟨137, 11, 137, 46⟩), ((funcC (bodyK K w 135) (rbe0 K w L τ)), ⟨187, 11, 187, 88⟩), (callerC, ⟨0, 0, 0, 0⟩)]
noncomputable def rb_v131 (K : Params → KT) (w : World) (L : Lt) : FnC := ⟨rbx131 K w L, 1462, fun τ => .ret (.int (L.v 2) (τ 3379)), 1463, rbc84 K w L, fun _ => []⟩
noncomputable def rb_v131_U_h (K : Params → KT) (w : World) (L : Lt) (c : Cls L 2 65 90 65) : List (Nat × Act) := [(23, S), (20, .bi (cLeT c 65 rfl)), (16, S), (13, .bi (cGeT c 90 rfl)), (4, .bi (cSub c 65 rfl))]
theorem rb_v131_U_t (b : Pk) (L : Lt) (c : Cls L 2 65 90 65) : FnT (b.V z0.1) (rb_v131 z0.1 b.w L) 40 (rb_v131_U_h z0.1 b.w L c) ⟨none, [(3375, .cnt)]⟩ := by intro h₁ R p i τ υ; kernel_rfl
theorem rb_v131_U_ok (b : Pk) (O : (b.V z0.1).Ok) (L : Lt) (c : Cls L 2 65 90 65) : (rb_v131 z0.1 b.w L).Ok (b.V z0.1) := okFn O (rb_v131_U_t b L c) (by kernel_rfl) (by kernel_rfl)
noncomputable def rb_v131_Lo_h (K : Params → KT) (w : World) (L : Lt) (c : Cls L 2 97 122 71) : List (Nat × Act) := [(40, S), (37, .bi (cLeT c 65 rfl)), (33, S), (30, .bi (cGeF c 90 rfl)), (23, S), (20, .bi (cLeT c 97 rfl)), (16, S), (13, .bi (cGeT c 122 rfl)), (4, .bi (cSub c 71 rfl))]
theorem rb_v131_Lo_t (b : Pk) (L : Lt) (c : Cls L 2 97 122 71) : FnT (b.V z0.1) (rb_v131 z0.1 b.w L) 57 (rb_v131_Lo_h z0.1 b.w L c) ⟨none, [(3373, .cnt)]⟩ := by intro h₁ R p i τ υ; kernel_rfl
theorem rb_v131_Lo_ok (b : Pk) (O : (b.V z0.1).Ok) (L : Lt) (c : Cls L 2 97 122 71) : (rb_v131 z0.1 b.w L).Ok (b.V z0.1) := okFn O (rb_v131_Lo_t b L c) (by kernel_rfl) (by kernel_rfl)
theorem rb_v131_ok (b : Pk) (O : (b.V z0.1).Ok) (L : Lt) (hL : LtOk L 4) (hB : Bnd L) : (rb_v131 z0.1 b.w L).Ok (b.V z0.1) := by
  have z := hB.v2
  rcases cls_of hL (r := 2) rfl with ⟨_, c⟩ | ⟨e, _, c⟩ | ⟨e, _, c⟩ | ⟨e, c⟩ | ⟨e, c⟩
  · exact rb_v131_U_ok b O L c
  · exact rb_v131_Lo_ok b O L c
  · omega
  · omega
  · omega
noncomputable def rbx133 (K : Params → KT) (w : World) (L : Lt) (τ : Nat → Nat) : PySem.Ctx := ctxC (.call (.ref 90) ⟨[.int (bv L 1) (τ 3399)], []⟩) [((rbk111 K w L τ), ⟨98, 18, 98, 37⟩), ((funcC (bodyK K w 98) (rbe110 K w L τ)), ⟨84, 19, 84, 29⟩), ((funcC (bodyK K w 106) (rbe112 K w L τ)), ⟨137, 11, 137, 46⟩), ((funcC (bodyK K w 135) (rbe0 K w L τ)), ⟨187, 11, 187, 88⟩), (callerC, ⟨0, 0, 0, 0⟩)]
noncomputable def rb_v133 (K : Params → KT) (w : World) (L : Lt) : FnC := ⟨rbx133 K w L, 1463, fun τ => .ret (.int (L.v 1) (τ 3408)), 1464, rbc84 K w L, fun _ => []⟩
noncomputable def rb_v133_U_h (K : Params → KT) (w : World) (L : Lt) (c : Cls L 1 65 90 65) : List (Nat × Act) := [(23, S), (20, .bi (cLeT c 65 rfl)), (16, S), (13, .bi (cGeT c 90 rfl)), (4, .bi (cSub c 65 rfl))]
theorem rb_v133_U_t (b : Pk) (L : Lt) (c : Cls L 1 65 90 65) : FnT (b.V z0.1) (rb_v133 z0.1 b.w L) 40 (rb_v133_U_h z0.1 b.w L c) ⟨none, [(3404, .cnt)]⟩ := by intro h₁ R p i τ υ; kernel_rfl
theorem rb_v133_U_ok (b : Pk) (O : (b.V z0.1).Ok) (L : Lt) (c : Cls L 1 65 90 65) : (rb_v133 z0.1 b.w L).Ok (b.V z0.1) := okFn O (rb_v133_U_t b L c) (by kernel_rfl) (by kernel_rfl)
noncomputable def rb_v133_Lo_h (K : Params → KT) (w : World) (L : Lt) (c : Cls L 1 97 122 71) : List (Nat × Act) := [(40, S), (37, .bi (cLeT c 65 rfl)), (33, S), (30, .bi (cGeF c 90 rfl)), (23, S), (20, .bi (cLeT c 97 rfl)), (16, S), (13, .bi (cGeT c 122 rfl)), (4, .bi (cSub c 71 rfl))]
theorem rb_v133_Lo_t (b : Pk) (L : Lt) (c : Cls L 1 97 122 71) : FnT (b.V z0.1) (rb_v133 z0.1 b.w L) 57 (rb_v133_Lo_h z0.1 b.w L c) ⟨none, [(3402, .cnt)]⟩ := by intro h₁ R p i τ υ; kernel_rfl
theorem rb_v133_Lo_ok (b : Pk) (O : (b.V z0.1).Ok) (L : Lt) (c : Cls L 1 97 122 71) : (rb_v133 z0.1 b.w L).Ok (b.V z0.1) := okFn O (rb_v133_Lo_t b L c) (by kernel_rfl) (by kernel_rfl)
theorem rb_v133_ok (b : Pk) (O : (b.V z0.1).Ok) (L : Lt) (hL : LtOk L 4) (hB : Bnd L) : (rb_v133 z0.1 b.w L).Ok (b.V z0.1) := by
  have z := hB.v1
  rcases cls_of hL (r := 1) rfl with ⟨_, c⟩ | ⟨e, _, c⟩ | ⟨e, _, c⟩ | ⟨e, c⟩ | ⟨e, c⟩
  · exact rb_v133_U_ok b O L c
  · exact rb_v133_Lo_ok b O L c
  · omega
  · omega
  · omega
noncomputable def rbx135 (K : Params → KT) (w : World) (L : Lt) (τ : Nat → Nat) : PySem.Ctx := ctxC (.call (.ref 90) ⟨[.int (bv L 3) (τ 3429)], []⟩) [((rbk111 K w L τ), ⟨98, 18, 98, 37⟩), ((funcC (bodyK K w 98) (rbe110 K w L τ)), ⟨84, 19, 84, 29⟩), ((funcC (bodyK K w 106) (rbe112 K w L τ)), ⟨137, 11, 137, 46⟩), ((funcC (bodyK K w 135) (rbe0 K w L τ)), ⟨187, 11, 187, 88⟩), (callerC, ⟨0, 0, 0, 0⟩)]
noncomputable def rb_v135 (K : Params → KT) (w : World) (L : Lt) : FnC := ⟨rbx135 K w L, 1464, fun τ => .ret (.int (L.v 3) (τ 3438)), 1465, rbc84 K w L, fun _ => []⟩
noncomputable def rb_v135_U_h (K : Params → KT) (w : World) (L : Lt) (c : Cls L 3 65 90 65) : List (Nat × Act) := [(23, S), (20, .bi (cLeT c 65 rfl)), (16, S), (13, .bi (cGeT c 90 rfl)), (4, .bi (cSub c 65 rfl))]
theorem rb_v135_U_t (b : Pk) (L : Lt) (c : Cls L 3 65 90 65) : FnT (b.V z0.1) (rb_v135 z0.1 b.w L) 40 (rb_v135_U_h z0.1 b.w L c) ⟨none, [(3434, .cnt)]⟩ := by intro h₁ R p i τ υ; kernel_rfl
theorem rb_v135_U_ok (b : Pk) (O : (b.V z0.1).Ok) (L : Lt) (c : Cls L 3 65 90 65) : (rb_v135 z0.1 b.w L).Ok (b.V z0.1) := okFn O (rb_v135_U_t b L c) (by kernel_rfl) (by kernel_rfl)
noncomputable def rb_v135_Lo_h (K : Params → KT) (w : World) (L : Lt) (c : Cls L 3 97 122 71) : List (Nat × Act) := [(40, S), (37, .bi (cLeT c 65 rfl)), (33, S), (30, .bi (cGeF c 90 rfl)), (23, S), (20, .bi (cLeT c 97 rfl)), (16, S), (13, .bi (cGeT c 122 rfl)), (4, .bi (cSub c 71 rfl))]
theorem rb_v135_Lo_t (b : Pk) (L : Lt) (c : Cls L 3 97 122 71) : FnT (b.V z0.1) (rb_v135 z0.1 b.w L) 57 (rb_v135_Lo_h z0.1 b.w L c) ⟨none, [(3432, .cnt)]⟩ := by intro h₁ R p i τ υ; kernel_rfl
theorem rb_v135_Lo_ok (b : Pk) (O : (b.V z0.1).Ok) (L : Lt) (c : Cls L 3 97 122 71) : (rb_v135 z0.1 b.w L).Ok (b.V z0.1) := okFn O (rb_v135_Lo_t b L c) (by kernel_rfl) (by kernel_rfl)
noncomputable def rb_v135_D_h (K : Params → KT) (w : World) (L : Lt) (c : Cls L 3 48 57 (-4)) : List (Nat × Act) := [(43, S), (40, .bi (cLeF c 65 rfl)), (33, S), (30, .bi (cLeF c 97 rfl)), (23, S), (20, .bi (cLeT c 48 rfl)), (16, S), (13, .bi (cGeT c 57 rfl)), (4, .bi (cAdd c 4 rfl))]
theorem rb_v135_D_t (b : Pk) (L : Lt) (c : Cls L 3 48 57 (-4)) : FnT (b.V z0.1) (rb_v135 z0.1 b.w L) 60 (rb_v135_D_h z0.1 b.w L c) ⟨none, [(3432, .cnt)]⟩ := by intro h₁ R p i τ υ; kernel_rfl
theorem rb_v135_D_ok (b : Pk) (O : (b.V z0.1).Ok) (L : Lt) (c : Cls L 3 48 57 (-4)) : (rb_v135 z0.1 b.w L).Ok (b.V z0.1) := okFn O (rb_v135_D_t b L c) (by kernel_rfl) (by kernel_rfl)
noncomputable def rb_v135_P_h (K : Params → KT) (w : World) (L : Lt) : List (Nat × Act) := [(34, S), (25, S), (16, S), (7, S)]
theorem rb_v135_P_t (b : Pk) (L : Lt) : FnT (b.V z0.1) (rb_v135 z0.1 b.w (setL L 3 62 43)) 51 (rb_v135_P_h z0.1 b.w (setL L 3 62 43)) ⟨none, [(3433, .cnt)]⟩ := by intro h₁ R p i τ υ; kernel_rfl
theorem rb_v135_P_ok (b : Pk) (O : (b.V z0.1).Ok) (L : Lt) : (rb_v135 z0.1 b.w (setL L 3 62 43)).Ok (b.V z0.1) := okFn O (rb_v135_P_t b L) (by kernel_rfl) (by kernel_rfl)
noncomputable def rb_v135_S_h (K : Params → KT) (w : World) (L : Lt) : List (Nat × Act) := [(43, S), (34, S), (25, S), (16, S), (7, S)]
theorem rb_v135_S_t (b : Pk) (L : Lt) : FnT (b.V z0.1) (rb_v135 z0.1 b.w (setL L 3 63 47)) 60 (rb_v135_S_h z0.1 b.w (setL L 3 63 47)) ⟨none, [(3432, .cnt)]⟩ := by intro h₁ R p i τ υ; kernel_rfl
theorem rb_v135_S_ok (b : Pk) (O : (b.V z0.1).Ok) (L : Lt) : (rb_v135 z0.1 b.w (setL L 3 63 47)).Ok (b.V z0.1) := okFn O (rb_v135_S_t b L) (by kernel_rfl) (by kernel_rfl)
theorem rb_v135_ok (b : Pk) (O : (b.V z0.1).Ok) (L : Lt) (hL : LtOk L 4) (hB : Bnd L) : (rb_v135 z0.1 b.w L).Ok (b.V z0.1) := by
  have z := hB.v3
  rcases cls_of hL (r := 3) rfl with ⟨_, c⟩ | ⟨e, _, c⟩ | ⟨e, _, c⟩ | ⟨e, c⟩ | ⟨e, c⟩
  · exact rb_v135_U_ok b O L c
  · exact rb_v135_Lo_ok b O L c
  · exact rb_v135_D_ok b O L c
  · have z := rb_v135_P_ok b O L
    rwa [setL_eq e c] at z
  · have z := rb_v135_S_ok b O L
    rwa [setL_eq e c] at z
noncomputable def rbx137 (K : Params → KT) (w : World) (L : Lt) (τ : Nat → Nat) : PySem.Ctx := ctxC (.call (.ref 90) ⟨[.int (bv L 2) (τ 3456)], []⟩) [((rbk111 K w L τ), ⟨98, 18, 98, 37⟩), ((funcC (bodyK K w 98) (rbe110 K w L τ)), ⟨84, 19, 84, 29⟩), ((funcC (bodyK K w 106) (rbe112 K w L τ)), ⟨137, 11, 137, 46⟩), ((funcC (bodyK K w 135) (rbe0 K w L τ)), ⟨187, 11, 187, 88⟩), (callerC, ⟨0, 0, 0, 0⟩)]
noncomputable def rb_v137 (K : Params → KT) (w : World) (L : Lt) : FnC := ⟨rbx137 K w L, 1465, fun τ => .ret (.int (L.v 2) (τ 3465)), 1466, rbc84 K w L, fun _ => []⟩
noncomputable def rb_v137_U_h (K : Params → KT) (w : World) (L : Lt) (c : Cls L 2 65 90 65) : List (Nat × Act) := [(23, S), (20, .bi (cLeT c 65 rfl)), (16, S), (13, .bi (cGeT c 90 rfl)), (4, .bi (cSub c 65 rfl))]
theorem rb_v137_U_t (b : Pk) (L : Lt) (c : Cls L 2 65 90 65) : FnT (b.V z0.1) (rb_v137 z0.1 b.w L) 40 (rb_v137_U_h z0.1 b.w L c) ⟨none, [(3461, .cnt)]⟩ := by intro h₁ R p i τ υ; kernel_rfl
theorem rb_v137_U_ok (b : Pk) (O : (b.V z0.1).Ok) (L : Lt) (c : Cls L 2 65 90 65) : (rb_v137 z0.1 b.w L).Ok (b.V z0.1) := okFn O (rb_v137_U_t b L c) (by kernel_rfl) (by kernel_rfl)
noncomputable def rb_v137_Lo_h (K : Params → KT) (w : World) (L : Lt) (c : Cls L 2 97 122 71) : List (Nat × Act) := [(40, S), (37, .bi (cLeT c 65 rfl)), (33, S), (30, .bi (cGeF c 90 rfl)), (23, S), (20, .bi (cLeT c 97 rfl)), (16, S), (13, .bi (cGeT c 122 rfl)), (4, .bi (cSub c 71 rfl))]
theorem rb_v137_Lo_t (b : Pk) (L : Lt) (c : Cls L 2 97 122 71) : FnT (b.V z0.1) (rb_v137 z0.1 b.w L) 57 (rb_v137_Lo_h z0.1 b.w L c) ⟨none, [(3459, .cnt)]⟩ := by intro h₁ R p i τ υ; kernel_rfl
theorem rb_v137_Lo_ok (b : Pk) (O : (b.V z0.1).Ok) (L : Lt) (c : Cls L 2 97 122 71) : (rb_v137 z0.1 b.w L).Ok (b.V z0.1) := okFn O (rb_v137_Lo_t b L c) (by kernel_rfl) (by kernel_rfl)
theorem rb_v137_ok (b : Pk) (O : (b.V z0.1).Ok) (L : Lt) (hL : LtOk L 4) (hB : Bnd L) : (rb_v137 z0.1 b.w L).Ok (b.V z0.1) := by
  have z := hB.v2
  rcases cls_of hL (r := 2) rfl with ⟨_, c⟩ | ⟨e, _, c⟩ | ⟨e, _, c⟩ | ⟨e, c⟩ | ⟨e, c⟩
  · exact rb_v137_U_ok b O L c
  · exact rb_v137_Lo_ok b O L c
  · omega
  · omega
  · omega
noncomputable def rbx139 (K : Params → KT) (w : World) (L : Lt) (τ : Nat → Nat) : PySem.Ctx := ctxC (.call (.ref 90) ⟨[.int (bv L 2) (τ 3477)], []⟩) [((rbk111 K w L τ), ⟨98, 18, 98, 37⟩), ((funcC (bodyK K w 98) (rbe110 K w L τ)), ⟨84, 19, 84, 29⟩), ((funcC (bodyK K w 106) (rbe112 K w L τ)), ⟨137, 11, 137, 46⟩), ((funcC (bodyK K w 135) (rbe0 K w L τ)), ⟨187, 11, 187, 88⟩), (callerC, ⟨0, 0, 0, 0⟩)]
noncomputable def rb_v139 (K : Params → KT) (w : World) (L : Lt) : FnC := ⟨rbx139 K w L, 1466, fun τ => .ret (.int (L.v 2) (τ 3486)), 1467, rbc84 K w L, fun _ => []⟩
noncomputable def rb_v139_U_h (K : Params → KT) (w : World) (L : Lt) (c : Cls L 2 65 90 65) : List (Nat × Act) := [(23, S), (20, .bi (cLeT c 65 rfl)), (16, S), (13, .bi (cGeT c 90 rfl)), (4, .bi (cSub c 65 rfl))]
theorem rb_v139_U_t (b : Pk) (L : Lt) (c : Cls L 2 65 90 65) : FnT (b.V z0.1) (rb_v139 z0.1 b.w L) 40 (rb_v139_U_h z0.1 b.w L c) ⟨none, [(3482, .cnt)]⟩ := by intro h₁ R p i τ υ; kernel_rfl
theorem rb_v139_U_ok (b : Pk) (O : (b.V z0.1).Ok) (L : Lt) (c : Cls L 2 65 90 65) : (rb_v139 z0.1 b.w L).Ok (b.V z0.1) := okFn O (rb_v139_U_t b L c) (by kernel_rfl) (by kernel_rfl)
noncomputable def rb_v139_Lo_h (K : Params → KT) (w : World) (L : Lt) (c : Cls L 2 97 122 71) : List (Nat × Act) := [(40, S), (37, .bi (cLeT c 65 rfl)), (33, S), (30, .bi (cGeF c 90 rfl)), (23, S), (20, .bi (cLeT c 97 rfl)), (16, S), (13, .bi (cGeT c 122 rfl)), (4, .bi (cSub c 71 rfl))]
theorem rb_v139_Lo_t (b : Pk) (L : Lt) (c : Cls L 2 97 122 71) : FnT (b.V z0.1) (rb_v139 z0.1 b.w L) 57 (rb_v139_Lo_h z0.1 b.w L c) ⟨none, [(3480, .cnt)]⟩ := by intro h₁ R p i τ υ; kernel_rfl
theorem rb_v139_Lo_ok (b : Pk) (O : (b.V z0.1).Ok) (L : Lt) (c : Cls L 2 97 122 71) : (rb_v139 z0.1 b.w L).Ok (b.V z0.1) := okFn O (rb_v139_Lo_t b L c) (by kernel_rfl) (by kernel_rfl)
theorem rb_v139_ok (b : Pk) (O : (b.V z0.1).Ok) (L : Lt) (hL : LtOk L 4) (hB : Bnd L) : (rb_v139 z0.1 b.w L).Ok (b.V z0.1) := by
  have z := hB.v2
  rcases cls_of hL (r := 2) rfl with ⟨_, c⟩ | ⟨e, _, c⟩ | ⟨e, _, c⟩ | ⟨e, c⟩ | ⟨e, c⟩
  · exact rb_v139_U_ok b O L c
  · exact rb_v139_Lo_ok b O L c
  · omega
  · omega
  · omega
noncomputable def rbx141 (K : Params → KT) (w : World) (L : Lt) (τ : Nat → Nat) : PySem.Ctx := ctxC (.call (.ref 90) ⟨[.int (bv L 3) (τ 3506)], []⟩) [((rbk111 K w L τ), ⟨98, 18, 98, 37⟩), ((funcC (bodyK K w 98) (rbe110 K w L τ)), ⟨84, 19, 84, 29⟩), ((funcC (bodyK K w 106) (rbe112 K w L τ)), ⟨137, 11, 137, 46⟩), ((funcC (bodyK K w 135) (rbe0 K w L τ)), ⟨187, 11, 187, 88⟩), (callerC, ⟨0, 0, 0, 0⟩)]
noncomputable def rb_v141 (K : Params → KT) (w : World) (L : Lt) : FnC := ⟨rbx141 K w L, 1467, fun τ => .ret (.int (L.v 3) (τ 3515)), 1468, rbc84 K w L, fun _ => []⟩
noncomputable def rb_v141_U_h (K : Params → KT) (w : World) (L : Lt) (c : Cls L 3 65 90 65) : List (Nat × Act) := [(23, S), (20, .bi (cLeT c 65 rfl)), (16, S), (13, .bi (cGeT c 90 rfl)), (4, .bi (cSub c 65 rfl))]
theorem rb_v141_U_t (b : Pk) (L : Lt) (c : Cls L 3 65 90 65) : FnT (b.V z0.1) (rb_v141 z0.1 b.w L) 40 (rb_v141_U_h z0.1 b.w L c) ⟨none, [(3511, .cnt)]⟩ := by intro h₁ R p i τ υ; kernel_rfl
theorem rb_v141_U_ok (b : Pk) (O : (b.V z0.1).Ok) (L : Lt) (c : Cls L 3 65 90 65) : (rb_v141 z0.1 b.w L).Ok (b.V z0.1) := okFn O (rb_v141_U_t b L c) (by kernel_rfl) (by kernel_rfl)
noncomputable def rb_v141_Lo_h (K : Params → KT) (w : World) (L : Lt) (c : Cls L 3 97 122 71) : List (Nat × Act) := [(40, S), (37, .bi (cLeT c 65 rfl)), (33, S), (30, .bi (cGeF c 90 rfl)), (23, S), (20, .bi (cLeT c 97 rfl)), (16, S), (13, .bi (cGeT c 122 rfl)), (4, .bi (cSub c 71 rfl))]
theorem rb_v141_Lo_t (b : Pk) (L : Lt) (c : Cls L 3 97 122 71) : FnT (b.V z0.1) (rb_v141 z0.1 b.w L) 57 (rb_v141_Lo_h z0.1 b.w L c) ⟨none, [(3509, .cnt)]⟩ := by intro h₁ R p i τ υ; kernel_rfl
theorem rb_v141_Lo_ok (b : Pk) (O : (b.V z0.1).Ok) (L : Lt) (c : Cls L 3 97 122 71) : (rb_v141 z0.1 b.w L).Ok (b.V z0.1) := okFn O (rb_v141_Lo_t b L c) (by kernel_rfl) (by kernel_rfl)
noncomputable def rb_v141_D_h (K : Params → KT) (w : World) (L : Lt) (c : Cls L 3 48 57 (-4)) : List (Nat × Act) := [(43, S), (40, .bi (cLeF c 65 rfl)), (33, S), (30, .bi (cLeF c 97 rfl)), (23, S), (20, .bi (cLeT c 48 rfl)), (16, S), (13, .bi (cGeT c 57 rfl)), (4, .bi (cAdd c 4 rfl))]
theorem rb_v141_D_t (b : Pk) (L : Lt) (c : Cls L 3 48 57 (-4)) : FnT (b.V z0.1) (rb_v141 z0.1 b.w L) 60 (rb_v141_D_h z0.1 b.w L c) ⟨none, [(3509, .cnt)]⟩ := by intro h₁ R p i τ υ; kernel_rfl
theorem rb_v141_D_ok (b : Pk) (O : (b.V z0.1).Ok) (L : Lt) (c : Cls L 3 48 57 (-4)) : (rb_v141 z0.1 b.w L).Ok (b.V z0.1) := okFn O (rb_v141_D_t b L c) (by kernel_rfl) (by kernel_rfl)
noncomputable def rb_v141_P_h (K : Params → KT) (w : World) (L : Lt) : List (Nat × Act) := [(34, S), (25, S), (16, S), (7, S)]
theorem rb_v141_P_t (b : Pk) (L : Lt) : FnT (b.V z0.1) (rb_v141 z0.1 b.w (setL L 3 62 43)) 51 (rb_v141_P_h z0.1 b.w (setL L 3 62 43)) ⟨none, [(3510, .cnt)]⟩ := by intro h₁ R p i τ υ; kernel_rfl
theorem rb_v141_P_ok (b : Pk) (O : (b.V z0.1).Ok) (L : Lt) : (rb_v141 z0.1 b.w (setL L 3 62 43)).Ok (b.V z0.1) := okFn O (rb_v141_P_t b L) (by kernel_rfl) (by kernel_rfl)
noncomputable def rb_v141_S_h (K : Params → KT) (w : World) (L : Lt) : List (Nat × Act) := [(43, S), (34, S), (25, S), (16, S), (7, S)]
theorem rb_v141_S_t (b : Pk) (L : Lt) : FnT (b.V z0.1) (rb_v141 z0.1 b.w (setL L 3 63 47)) 60 (rb_v141_S_h z0.1 b.w (setL L 3 63 47)) ⟨none, [(3509, .cnt)]⟩ := by intro h₁ R p i τ υ; kernel_rfl
theorem rb_v141_S_ok (b : Pk) (O : (b.V z0.1).Ok) (L : Lt) : (rb_v141 z0.1 b.w (setL L 3 63 47)).Ok (b.V z0.1) := okFn O (rb_v141_S_t b L) (by kernel_rfl) (by kernel_rfl)
theorem rb_v141_ok (b : Pk) (O : (b.V z0.1).Ok) (L : Lt) (hL : LtOk L 4) (hB : Bnd L) : (rb_v141 z0.1 b.w L).Ok (b.V z0.1) := by
  have z := hB.v3
  rcases cls_of hL (r := 3) rfl with ⟨_, c⟩ | ⟨e, _, c⟩ | ⟨e, _, c⟩ | ⟨e, c⟩ | ⟨e, c⟩
  · exact rb_v141_U_ok b O L c
  · exact rb_v141_Lo_ok b O L c
  · exact rb_v141_D_ok b O L c
  · have z := rb_v141_P_ok b O L
    rwa [setL_eq e c] at z
  · have z := rb_v141_S_ok b O L
    rwa [setL_eq e c] at z
noncomputable def rbx143 (K : Params → KT) (w : World) (L : Lt) (τ : Nat → Nat) : PySem.Ctx := ctxC (.call (.ref 90) ⟨[.int (bv L 3) (τ 3536)], []⟩) [((rbk111 K w L τ), ⟨98, 18, 98, 37⟩), ((funcC (bodyK K w 98) (rbe110 K w L τ)), ⟨84, 19, 84, 29⟩), ((funcC (bodyK K w 106) (rbe112 K w L τ)), ⟨137, 11, 137, 46⟩), ((funcC (bodyK K w 135) (rbe0 K w L τ)), ⟨187, 11, 187, 88⟩), (callerC, ⟨0, 0, 0, 0⟩)]
noncomputable def rb_v143 (K : Params → KT) (w : World) (L : Lt) : FnC := ⟨rbx143 K w L, 1468, fun τ => .ret (.int (L.v 3) (τ 3545)), 1469, rbc84 K w L, fun _ => []⟩
noncomputable def rb_v143_U_h (K : Params → KT) (w : World) (L : Lt) (c : Cls L 3 65 90 65) : List (Nat × Act) := [(23, S), (20, .bi (cLeT c 65 rfl)), (16, S), (13, .bi (cGeT c 90 rfl)), (4, .bi (cSub c 65 rfl))]
theorem rb_v143_U_t (b : Pk) (L : Lt) (c : Cls L 3 65 90 65) : FnT (b.V z0.1) (rb_v143 z0.1 b.w L) 40 (rb_v143_U_h z0.1 b.w L c) ⟨none, [(3541, .cnt)]⟩ := by intro h₁ R p i τ υ; kernel_rfl
theorem rb_v143_U_ok (b : Pk) (O : (b.V z0.1).Ok) (L : Lt) (c : Cls L 3 65 90 65) : (rb_v143 z0.1 b.w L).Ok (b.V z0.1) := okFn O (rb_v143_U_t b L c) (by kernel_rfl) (by kernel_rfl)
noncomputable def rb_v143_Lo_h (K : Params → KT) (w : World) (L : Lt) (c : Cls L 3 97 122 71) : List (Nat × Act) := [(40, S), (37, .bi (cLeT c 65 rfl)), (33, S), (30, .bi (cGeF c 90 rfl)), (23, S), (20, .bi (cLeT c 97 rfl)), (16, S), (13, .bi (cGeT c 122 rfl)), (4, .bi (cSub c 71 rfl))]
theorem rb_v143_Lo_t (b : Pk) (L : Lt) (c : Cls L 3 97 122 71) : FnT (b.V z0.1) (rb_v143 z0.1 b.w L) 57 (rb_v143_Lo_h z0.1 b.w L c) ⟨none, [(3539, .cnt)]⟩ := by intro h₁ R p i τ υ; kernel_rfl
theorem rb_v143_Lo_ok (b : Pk) (O : (b.V z0.1).Ok) (L : Lt) (c : Cls L 3 97 122 71) : (rb_v143 z0.1 b.w L).Ok (b.V z0.1) := okFn O (rb_v143_Lo_t b L c) (by kernel_rfl) (by kernel_rfl)
noncomputable def rb_v143_D_h (K : Params → KT) (w : World) (L : Lt) (c : Cls L 3 48 57 (-4)) : List (Nat × Act) := [(43, S), (40, .bi (cLeF c 65 rfl)), (33, S), (30, .bi (cLeF c 97 rfl)), (23, S), (20, .bi (cLeT c 48 rfl)), (16, S), (13, .bi (cGeT c 57 rfl)), (4, .bi (cAdd c 4 rfl))]
theorem rb_v143_D_t (b : Pk) (L : Lt) (c : Cls L 3 48 57 (-4)) : FnT (b.V z0.1) (rb_v143 z0.1 b.w L) 60 (rb_v143_D_h z0.1 b.w L c) ⟨none, [(3539, .cnt)]⟩ := by intro h₁ R p i τ υ; kernel_rfl
theorem rb_v143_D_ok (b : Pk) (O : (b.V z0.1).Ok) (L : Lt) (c : Cls L 3 48 57 (-4)) : (rb_v143 z0.1 b.w L).Ok (b.V z0.1) := okFn O (rb_v143_D_t b L c) (by kernel_rfl) (by kernel_rfl)
noncomputable def rb_v143_P_h (K : Params → KT) (w : World) (L : Lt) : List (Nat × Act) := [(34, S), (25, S), (16, S), (7, S)]
theorem rb_v143_P_t (b : Pk) (L : Lt) : FnT (b.V z0.1) (rb_v143 z0.1 b.w (setL L 3 62 43)) 51 (rb_v143_P_h z0.1 b.w (setL L 3 62 43)) ⟨none, [(3540, .cnt)]⟩ := by intro h₁ R p i τ υ; kernel_rfl
theorem rb_v143_P_ok (b : Pk) (O : (b.V z0.1).Ok) (L : Lt) : (rb_v143 z0.1 b.w (setL L 3 62 43)).Ok (b.V z0.1) := okFn O (rb_v143_P_t b L) (by kernel_rfl) (by kernel_rfl)
noncomputable def rb_v143_S_h (K : Params → KT) (w : World) (L : Lt) : List (Nat × Act) := [(43, S), (34, S), (25, S), (16, S), (7, S)]
theorem rb_v143_S_t (b : Pk) (L : Lt) : FnT (b.V z0.1) (rb_v143 z0.1 b.w (setL L 3 63 47)) 60 (rb_v143_S_h z0.1 b.w (setL L 3 63 47)) ⟨none, [(3539, .cnt)]⟩ := by intro h₁ R p i τ υ; kernel_rfl
theorem rb_v143_S_ok (b : Pk) (O : (b.V z0.1).Ok) (L : Lt) : (rb_v143 z0.1 b.w (setL L 3 63 47)).Ok (b.V z0.1) := okFn O (rb_v143_S_t b L) (by kernel_rfl) (by kernel_rfl)
theorem rb_v143_ok (b : Pk) (O : (b.V z0.1).Ok) (L : Lt) (hL : LtOk L 4) (hB : Bnd L) : (rb_v143 z0.1 b.w L).Ok (b.V z0.1) := by
  have z := hB.v3
  rcases cls_of hL (r := 3) rfl with ⟨_, c⟩ | ⟨e, _, c⟩ | ⟨e, _, c⟩ | ⟨e, c⟩ | ⟨e, c⟩
  · exact rb_v143_U_ok b O L c
  · exact rb_v143_Lo_ok b O L c
  · exact rb_v143_D_ok b O L c
  · have z := rb_v143_P_ok b O L
    rwa [setL_eq e c] at z
  · have z := rb_v143_S_ok b O L
    rwa [setL_eq e c] at z
noncomputable def rb_top_h (K : Params → KT) (w : World) (L : Lt) (hL : LtOk L 4) (hH : HdOk L 1) (vs : List Value) (h63 : vs.length ≤ 63) : List (Nat × Act) := [(7811, .repl (rSlc vs h63)), (7804, .fn (rb_sum K w L vs) ⟨none, [(361, .cnt)]⟩), (7766, .bi (bMod L.h 5 1 (by decide) hH.m)), (7748, S), (7683, .bi (bDiv L.h 5 (L.h / 5) (by decide) (by decide) rfl)), (7676, .bi (bMod (L.h / 5) 16 (L.h / 5 % 16) (by decide) rfl)), (7670, .bi (bAdd 3 (L.h / 5 % 16) (L.v 0) hH.v0)), (7634, S), (7623, .ctr (rb_vals K w L) ⟨none, [(369, .un 7804), (363, .tau 7804), (361, .cnt)]⟩), (7606, S), (7596, .comp .list), (7570, .bi (biGet hL 0 rfl)), (7534, .bi (biGet hL 1 rfl)), (7498, .bi (biGet hL 2 rfl)), (7462, .bi (biGet hL 3 rfl)), (7334, S), (7292, S), (7253, S), (7242, .ctr (rb_lm21_0 K w L) ⟨some 7623, [(425, .un 7623)]⟩), (7209, S), (7170, S), (7159, .ctr (rb_lm42_0 K w L) ⟨some 7242, [(502, .un 7242)]⟩), (7088, S), (7080, S), (7074, S), (7067, S), (7059, S), (7053, S), (7046, S), (7038, S), (7032, S), (7025, S), (7017, S), (7011, S), (7004, S), (6996, S), (6990, S), (6982, S), (6974, S), (6968, S), (6961, S), (6953, S), (6947, S), (6940, S), (6934, Q), (6926, S), (6918, S), (6912, S), (6905, S), (6899, Q), (6896, S), (6890, S), (6883, S), (6875, S), (6869, S), (6862, S), (6856, Q), (6853, S), (6847, S), (6840, S), (6834, Q), (6831, S), (6825, S), (6818, S), (6810, S), (6804, S), (6797, S), (6789, S), (6783, S), (6776, S), (6770, Q), (6762, S), (6756, Q), (6748, S), (6740, S), (6734, S), (6727, S), (6721, Q), (6718, S), (6712, S), (6705, S), (6697, S), (6691, S), (6684, S), (6678, Q), (6670, S), (6662, S), (6656, S), (6639, S), (6631, .ctr (rb_row63_0 K w L) ⟨some 7159, [(876, .un 7159)]⟩), (6621, S), (6611, .comp .list), (6585, .bi (biGet hL 0 rfl)), (6549, .bi (biGet hL 0 rfl)), (6513, .bi (biGet hL 1 rfl)), (6477, .bi (biGet hL 0 rfl)), (6441, .bi (biGet hL 2 rfl)), (6405, .bi (biGet hL 0 rfl)), (6369, .bi (biGet hL 3 rfl)), (6333, .bi (biGet hL 1 rfl)), (6297, .bi (biGet hL 1 rfl)), (6261, .bi (biGet hL 2 rfl)), (6225, .bi (biGet hL 1 rfl)), (6189, .bi (biGet hL 3 rfl)), (6153, .bi (biGet hL 2 rfl)), (6117, .bi (biGet hL 2 rfl)), (6081, .bi (biGet hL 3 rfl)), (6045, .bi (biGet hL 3 rfl)), (5937, .ctr (rb_grow71_0 K w L) ⟨some 6631, [(912, .un 6631)]⟩), (5874, S), (5871, .bi (biNe hL [3, 3, 0, 0, 1, 0, 2, 0, 3, 1, 1, 2, 1, 3, 2, 2, 3] [3, 3, 0, 0, 1, 0, 2, 0, 3, 1, 1, 2, 1, 3, 2, 2, 3] rfl rfl)), (5771, S), (5768, .bi (biIter hL [0, 0, 1, 0, 2, 0, 3, 1, 1, 2, 1, 3, 2, 2, 3, 3] rfl)), (5761, .comp .ascii), (5134, S), (5112, .repl (rCode hL 1442 1443 0 rfl)), (5096, .repl (rCode hL 1442 1443 0 rfl)), (5080, .repl (rCode hL 1442 1443 1 rfl)), (5064, .repl (rCode hL 1442 1443 0 rfl)), (5048, .repl (rCode hL 1442 1443 2 rfl)), (5032, .repl (rCode hL 1442 1443 0 rfl)), (5016, .repl (rCode hL 1442 1443 3 rfl)), (5000, .repl (rCode hL 1442 1443 1 rfl)), (4984, .repl (rCode hL 1442 1443 1 rfl)), (4968, .repl (rCode hL 1442 1443 2 rfl)), (4952, .repl (rCode hL 1442 1443 1 rfl)), (4936, .repl (rCode hL 1442 1443 3 rfl)), (4920, .repl (rCode hL 1442 1443 2 rfl)), (4904, .repl (rCode hL 1442 1443 2 rfl)), (4888, .repl (rCode hL 1442 1443 3 rfl)), (4872, .repl (rCode hL 1442 1443 3 rfl)), (4538, S), (4508, S), (4505, .bi (aPad hL 0 rfl)), (4495, .fn (rb_v110 K w L) ⟨some 5937, [(3049, .un 5937)]⟩), (4481, S), (4478, .bi (aGe64 hL 0 rfl)), (4455, S), (4392, S), (4389, .bi (aPad hL 0 rfl)), (4379, .fn (rb_v115 K w L) ⟨some 5937, [(3151, .un 4495), (3146, .tau 4495), (3049, .un 5937)]⟩), (4365, S), (4362, .bi (aGe64 hL 0 rfl)), (4339, S), (4330, S), (4302, .bi (aShl2 hL 0 rfl)), (4293, .bi (aShr4 hL 0 rfl)), (4287, .bi (aOr0 hL 0 0 rfl rfl)), (4268, .bi (aAnd15 hL 0 rfl)), (4218, S), (4215, .bi (aPad hL 1 rfl)), (4205, .fn (rb_v117 K w L) ⟨some 5937, [(3170, .un 4379), (3165, .tau 4379), (3151, .un 4495), (3146, .tau 4495), (3049, .un 5937)]⟩), (4191, S), (4188, .bi (aGe64 hL 1 rfl)), (4165, S), (4156, S), (4147, S), (4119, .bi (aShl4 hL 0 rfl)), (4110, .bi (aShr2 hL 1 rfl)), (4104, .bi (aOr1 hL 0 1 rfl rfl)), (4085, .bi (aAnd3 hL 1 rfl)), (4035, S), (4032, .bi (aPad hL 0 rfl)), (4022, .fn (rb_v119 K w L) ⟨some 5937, [(3199, .un 4205), (3192, .tau 4205), (3170, .un 4379), (3165, .tau 4379), (3151, .un 4495), (3146, .tau 4495), (3049, .un 5937)]⟩), (4008, S), (4005, .bi (aGe64 hL 0 rfl)), (3982, S), (3973, S), (3964, S), (3936, .bi (aShl6 hL 1 rfl)), (3928, .bi (aOr2 hL 1 0 rfl rfl)), (3867, S), (3864, .bi (aPad hL 2 rfl)), (3854, .fn (rb_v121 K w L) ⟨some 5937, [(3227, .un 4022), (3222, .tau 4022), (3199, .un 4205), (3192, .tau 4205), (3170, .un 4379), (3165, .tau 4379), (3151, .un 4495), (3146, .tau 4495), (3049, .un 5937)]⟩), (3840, S), (3837, .bi (aGe64 hL 2 rfl)), (3814, S), (3751, S), (3748, .bi (aPad hL 0 rfl)), (3738, .fn (rb_v123 K w L) ⟨some 5937, [(3254, .un 3854), (3247, .tau 3854), (3227, .un 4022), (3222, .tau 4022), (3199, .un 4205), (3192, .tau 4205), (3170, .un 4379), (3165, .tau 4379), (3151, .un 4495), (3146, .tau 4495), (3049, .un 5937)]⟩), (3724, S), (3721, .bi (aGe64 hL 0 rfl)), (3698, S), (3689, S), (3661, .bi (aShl2 hL 2 rfl)), (3652, .bi (aShr4 hL 0 rfl)), (3646, .bi (aOr0 hL 2 0 rfl rfl)), (3627, .bi (aAnd15 hL 0 rfl)), (3577, S), (3574, .bi (aPad hL 3 rfl)), (3564, .fn (rb_v125 K w L) ⟨some 5937, [(3273, .un 3738), (3268, .tau 3738), (3254, .un 3854), (3247, .tau 3854), (3227, .un 4022), (3222, .tau 4022), (3199, .un 4205), (3192, .tau 4205), (3170, .un 4379), (3165, .tau 4379), (3151, .un 4495), (3146, .tau 4495), (3049, .un 5937)]⟩), (3550, S), (3547, .bi (aGe64 hL 3 rfl)), (3524, S), (3515, S), (3506, S), (3478, .bi (aShl4 hL 0 rfl)), (3469, .bi (aShr2 hL 3 rfl)), (3463, .bi (aOr1 hL 0 3 rfl rfl)), (3444, .bi (aAnd3 hL 3 rfl)), (3394, S), (3391, .bi (aPad hL 1 rfl)), (3381, .fn (rb_v127 K w L) ⟨some 5937, [(3302, .un 3564), (3295, .tau 3564), (3273, .un 3738), (3268, .tau 3738), (3254, .un 3854), (3247, .tau 3854), (3227, .un 4022), (3222, .tau 4022), (3199, .un 4205), (3192, .tau 4205), (3170, .un 4379), (3165, .tau 4379), (3151, .un 4495), (3146, .tau 4495), (3049, .un 5937)]⟩), (3367, S), (3364, .bi (aGe64 hL 1 rfl)), (3341, S), (3332, S), (3323, S), (3295, .bi (aShl6 hL 3 rfl)), (3287, .bi (aOr2 hL 3 1 rfl rfl)), (3226, S), (3223, .bi (aPad hL 1 rfl)), (3213, .fn (rb_v129 K w L) ⟨some 5937, [(3332, .un 3381), (3325, .tau 3381), (3302, .un 3564), (3295, .tau 3564), (3273, .un 3738), (3268, .tau 3738), (3254, .un 3854), (3247, .tau 3854), (3227, .un 4022), (3222, .tau 4022), (3199, .un 4205), (3192, .tau 4205), (3170, .un 4379), (3165, .tau 4379), (3151, .un 4495), (3146, .tau 4495), (3049, .un 5937)]⟩), (3199, S), (3196, .bi (aGe64 hL 1 rfl)), (3173, S), (3110, S), (3107, .bi (aPad hL 2 rfl)), (3097, .fn (rb_v131 K w L) ⟨some 5937, [(3359, .un 3213), (3352, .tau 3213), (3332, .un 3381), (3325, .tau 3381), (3302, .un 3564), (3295, .tau 3564), (3273, .un 3738), (3268, .tau 3738), (3254, .un 3854), (3247, .tau 3854), (3227, .un 4022), (3222, .tau 4022), (3199, .un 4205), (3192, .tau 4205), (3170, .un 4379), (3165, .tau 4379), (3151, .un 4495), (3146, .tau 4495), (3049, .un 5937)]⟩), (3083, S), (3080, .bi (aGe64 hL 2 rfl)), (3057, S), (3048, S), (3020, .bi (aShl2 hL 1 rfl)), (3011, .bi (aShr4 hL 2 rfl)), (3005, .bi (aOr0 hL 1 2 rfl rfl)), (2986, .bi (aAnd15 hL 2 rfl)), (2936, S), (2933, .bi (aPad hL 1 rfl)), (2923, .fn (rb_v133 K w L) ⟨some 5937, [(3380, .un 3097), (3373, .tau 3097), (3359, .un 3213), (3352, .tau 3213), (3332, .un 3381), (3325, .tau 3381), (3302, .un 3564), (3295, .tau 3564), (3273, .un 3738), (3268, .tau 3738), (3254, .un 3854), (3247, .tau 3854), (3227, .un 4022), (3222, .tau 4022), (3199, .un 4205), (3192, .tau 4205), (3170, .un 4379), (3165, .tau 4379), (3151, .un 4495), (3146, .tau 4495), (3049, .un 5937)]⟩), (2909, S), (2906, .bi (aGe64 hL 1 rfl)), (2883, S), (2874, S), (2865, S), (2837, .bi (aShl4 hL 2 rfl)), (2828, .bi (aShr2 hL 1 rfl)), (2822, .bi (aOr1 hL 2 1 rfl rfl)), (2803, .bi (aAnd3 hL 1 rfl)), (2753, S), (2750, .bi (aPad hL 3 rfl)), (2740, .fn (rb_v135 K w L) ⟨some 5937, [(3409, .un 2923), (3402, .tau 2923), (3380, .un 3097), (3373, .tau 3097), (3359, .un 3213), (3352, .tau 3213), (3332, .un 3381), (3325, .tau 3381), (3302, .un 3564), (3295, .tau 3564), (3273, .un 3738), (3268, .tau 3738), (3254, .un 3854), (3247, .tau 3854), (3227, .un 4022), (3222, .tau 4022), (3199, .un 4205), (3192, .tau 4205), (3170, .un 4379), (3165, .tau 4379), (3151, .un 4495), (3146, .tau 4495), (3049, .un 5937)]⟩), (2726, S), (2723, .bi (aGe64 hL 3 rfl)), (2700, S), (2691, S), (2682, S), (2654, .bi (aShl6 hL 1 rfl)), (2646, .bi (aOr2 hL 1 3 rfl rfl)), (2585, S), (2582, .bi (aPad hL 2 rfl)), (2572, .fn (rb_v137 K w L) ⟨some 5937, [(3439, .un 2740), (3432, .tau 2740), (3409, .un 2923), (3402, .tau 2923), (3380, .un 3097), (3373, .tau 3097), (3359, .un 3213), (3352, .tau 3213), (3332, .un 3381), (3325, .tau 3381), (3302, .un 3564), (3295, .tau 3564), (3273, .un 3738), (3268, .tau 3738), (3254, .un 3854), (3247, .tau 3854), (3227, .un 4022), (3222, .tau 4022), (3199, .un 4205), (3192, .tau 4205), (3170, .un 4379), (3165, .tau 4379), (3151, .un 4495), (3146, .tau 4495), (3049, .un 5937)]⟩), (2558, S), (2555, .bi (aGe64 hL 2 rfl)), (2532, S), (2469, S), (2466, .bi (aPad hL 2 rfl)), (2456, .fn (rb_v139 K w L) ⟨some 5937, [(3466, .un 2572), (3459, .tau 2572), (3439, .un 2740), (3432, .tau 2740), (3409, .un 2923), (3402, .tau 2923), (3380, .un 3097), (3373, .tau 3097), (3359, .un 3213), (3352, .tau 3213), (3332, .un 3381), (3325, .tau 3381), (3302, .un 3564), (3295, .tau 3564), (3273, .un 3738), (3268, .tau 3738), (3254, .un 3854), (3247, .tau 3854), (3227, .un 4022), (3222, .tau 4022), (3199, .un 4205), (3192, .tau 4205), (3170, .un 4379), (3165, .tau 4379), (3151, .un 4495), (3146, .tau 4495), (3049, .un 5937)]⟩), (2442, S), (2439, .bi (aGe64 hL 2 rfl)), (2416, S), (2407, S), (2379, .bi (aShl2 hL 2 rfl)), (2370, .bi (aShr4 hL 2 rfl)), (2364, .bi (aOr0 hL 2 2 rfl rfl)), (2345, .bi (aAnd15 hL 2 rfl)), (2295, S), (2292, .bi (aPad hL 3 rfl)), (2282, .fn (rb_v141 K w L) ⟨some 5937, [(3487, .un 2456), (3480, .tau 2456), (3466, .un 2572), (3459, .tau 2572), (3439, .un 2740), (3432, .tau 2740), (3409, .un 2923), (3402, .tau 2923), (3380, .un 3097), (3373, .tau 3097), (3359, .un 3213), (3352, .tau 3213), (3332, .un 3381), (3325, .tau 3381), (3302, .un 3564), (3295, .tau 3564), (3273, .un 3738), (3268, .tau 3738), (3254, .un 3854), (3247, .tau 3854), (3227, .un 4022), (3222, .tau 4022), (3199, .un 4205), (3192, .tau 4205), (3170, .un 4379), (3165, .tau 4379), (3151, .un 4495), (3146, .tau 4495), (3049, .un 5937)]⟩), (2268, S), (2265, .bi (aGe64 hL 3 rfl)), (2242, S), (2233, S), (2224, S), (2196, .bi (aShl4 hL 2 rfl)), (2187, .bi (aShr2 hL 3 rfl)), (2181, .bi (aOr1 hL 2 3 rfl rfl)), (2162, .bi (aAnd3 hL 3 rfl)), (2112, S), (2109, .bi (aPad hL 3 rfl)), (2099, .fn (rb_v143 K w L) ⟨some 5937, [(3516, .un 2282), (3509, .tau 2282), (3487, .un 2456), (3480, .tau 2456), (3466, .un 2572), (3459, .tau 2572), (3439, .un 2740), (3432, .tau 2740), (3409, .un 2923), (3402, .tau 2923), (3380, .un 3097), (3373, .tau 3097), (3359, .un 3213), (3352, .tau 3213), (3332, .un 3381), (3325, .tau 3381), (3302, .un 3564), (3295, .tau 3564), (3273, .un 3738), (3268, .tau 3738), (3254, .un 3854), (3247, .tau 3854), (3227, .un 4022), (3222, .tau 4022), (3199, .un 4205), (3192, .tau 4205), (3170, .un 4379), (3165, .tau 4379), (3151, .un 4495), (3146, .tau 4495), (3049, .un 5937)]⟩), (2085, S), (2082, .bi (aGe64 hL 3 rfl)), (2059, S), (2050, S), (2041, S), (2013, .bi (aShl6 hL 3 rfl)), (2005, .bi (aOr2 hL 3 3 rfl rfl)), (1945, S), (1936, S), (1914, S), (1892, .repl (rQ0 hL 1471 1472 0 0 rfl rfl)), (1876, .repl (rQ1 hL 1471 1472 0 1 rfl rfl)), (1860, .repl (rQ2 hL 1471 1472 1 0 rfl rfl)), (1844, .repl (rQ0 hL 1471 1472 2 0 rfl rfl)), (1828, .repl (rQ1 hL 1471 1472 0 3 rfl rfl)), (1812, .repl (rQ2 hL 1471 1472 3 1 rfl rfl)), (1796, .repl (rQ0 hL 1471 1472 1 2 rfl rfl)), (1780, .repl (rQ1 hL 1471 1472 2 1 rfl rfl)), (1764, .repl (rQ2 hL 1471 1472 1 3 rfl rfl)), (1748, .repl (rQ0 hL 1471 1472 2 2 rfl rfl)), (1732, .repl (rQ1 hL 1471 1472 2 3 rfl rfl)), (1716, .repl (rQ2 hL 1471 1472 3 3 rfl rfl)), (1568, S), (1494, S), (1454, .bi (aAdd1 L 0)), (1418, .bi (aMul1 L 0)), (1410, .bi (aAdd2 L 0 0)), (1374, .bi (aMul2 L 0 0)), (1366, .bi (aAdd3 L 0 0 1)), (1330, .bi (aMul3 L 0 0 1)), (1322, .bi (aAdd4 L 0 0 1 0)), (1277, .bi (aDiv0 hL 0 0 1 0 rfl rfl rfl rfl)), (1268, .bi (aDiv1 L 0 0 1 0)), (1261, .bi (aMod1 hL 0 0 1 0 rfl rfl rfl rfl)), (1252, .bi (aMod2 hL 0 0 1 0 rfl rfl rfl rfl)), (1172, S), (1132, .bi (aAdd1 L 2)), (1096, .bi (aMul1 L 2)), (1088, .bi (aAdd2 L 2 0)), (1052, .bi (aMul2 L 2 0)), (1044, .bi (aAdd3 L 2 0 3)), (1008, .bi (aMul3 L 2 0 3)), (1000, .bi (aAdd4 L 2 0 3 1)), (955, .bi (aDiv0 hL 2 0 3 1 rfl rfl rfl rfl)), (946, .bi (aDiv1 L 2 0 3 1)), (939, .bi (aMod1 hL 2 0 3 1 rfl rfl rfl rfl)), (930, .bi (aMod2 hL 2 0 3 1 rfl rfl rfl rfl)), (850, S), (810, .bi (aAdd1 L 1)), (774, .bi (aMul1 L 1)), (766, .bi (aAdd2 L 1 2)), (730, .bi (aMul2 L 1 2)), (722, .bi (aAdd3 L 1 2 1)), (686, .bi (aMul3 L 1 2 1)), (678, .bi (aAdd4 L 1 2 1 3)), (633, .bi (aDiv0 hL 1 2 1 3 rfl rfl rfl rfl)), (624, .bi (aDiv1 L 1 2 1 3)), (617, .bi (aMod1 hL 1 2 1 3 rfl rfl rfl rfl)), (608, .bi (aMod2 hL 1 2 1 3 rfl rfl rfl rfl)), (528, S), (488, .bi (aAdd1 L 2)), (452, .bi (aMul1 L 2)), (444, .bi (aAdd2 L 2 2)), (408, .bi (aMul2 L 2 2)), (400, .bi (aAdd3 L 2 2 3)), (364, .bi (aMul3 L 2 2 3)), (356, .bi (aAdd4 L 2 2 3 3)), (311, .bi (aDiv0 hL 2 2 3 3 rfl rfl rfl rfl)), (302, .bi (aDiv1 L 2 2 3 3)), (295, .bi (aMod1 hL 2 2 3 3 rfl rfl rfl rfl)), (286, .bi (aMod2 hL 2 2 3 3 rfl rfl rfl rfl)), (235, S), (213, .repl (rQ0 hL 1508 1509 0 0 rfl rfl)), (197, .repl (rQ1 hL 1508 1509 0 1 rfl rfl)), (181, .repl (rQ2 hL 1508 1509 1 0 rfl rfl)), (165, .repl (rQ0 hL 1508 1509 2 0 rfl rfl)), (149, .repl (rQ1 hL 1508 1509 0 3 rfl rfl)), (133, .repl (rQ2 hL 1508 1509 3 1 rfl rfl)), (117, .repl (rQ0 hL 1508 1509 1 2 rfl rfl)), (101, .repl (rQ1 hL 1508 1509 2 1 rfl rfl)), (85, .repl (rQ2 hL 1508 1509 1 3 rfl rfl)), (69, .repl (rQ0 hL 1508 1509 2 2 rfl rfl)), (53, .repl (rQ1 hL 1508 1509 2 3 rfl rfl)), (37, .repl (rQ2 hL 1508 1509 3 3 rfl rfl)), (6, S), (3, .bi (bBytes [q0 L 0 0, q1 L 0 1, q2 L 1 0, q0 L 2 0, q1 L 0 3, q2 L 3 1, q0 L 1 2, q1 L 2 1, q2 L 1 3, q0 L 2 2, q1 L 2 3, q2 L 3 3]))]
theorem rb_top_t (b : Pk) (L : Lt) (hL : LtOk L 4) (hH : HdOk L 1) (h63 : b.vs.length ≤ 63) : TopT (b.V z0.1) G0 default 7846 137 (rb_top_h z0.1 b.w L hL hH b.vs h63) := by intro i τ υ; kernel_rfl
theorem rb_top (b : Pk) (O : (b.V z0.1).Ok) (L : Lt) (hL : LtOk L 4) (hH : HdOk L 1) (h63 : b.vs.length ≤ 63) (hB : Bnd L) (hsum : (rb_sum z0.1 b.w L b.vs).Ok (b.V z0.1)) (hvals : (rb_vals z0.1 b.w L).Ok (b.V z0.1)) (i : Nat) (hR : ∀ T m' i' ch h, RepK (b.V z0.1) h T m' ch → b.R₀ (.ok (.ret (.bool true))) ⟨h, ⟨[]⟩, b.d, b.t₀ + i', b.os⟩) : GoX (b.V z0.1) G0 default .base (dF G0.code) .nil 137 i [] :=
  top_go O (rb_top_t b L hL hH h63) (met (.fn hsum ⟨none, [(361, .cnt)]⟩ (.ctr hvals ⟨none, [(369, .un 7804), (363, .tau 7804), (361, .cnt)]⟩ (.ctr (rb_lm21_0_ok b O L hL hB) ⟨some 7623, [(425, .un 7623)]⟩ (.ctr (rb_lm42_0_ok b O L hL hB) ⟨some 7242, [(502, .un 7242)]⟩ (.ctr (rb_row63_0_ok b O L hL hB) ⟨some 7159, [(876, .un 7159)]⟩ (.ctr (rb_grow71_0_ok b O L hL hB) ⟨some 6631, [(912, .un 6631)]⟩ (.fn (rb_v110_ok b O L hL hB) ⟨some 5937, [(3049, .un 5937)]⟩ (.fn (rb_v115_ok b O L hL hB) ⟨some 5937, [(3151, .un 4495), (3146, .tau 4495), (3049, .un 5937)]⟩ (.fn (rb_v117_ok b O L hL hB) ⟨some 5937, [(3170, .un 4379), (3165, .tau 4379), (3151, .un 4495), (3146, .tau 4495), (3049, .un 5937)]⟩ (.fn (rb_v119_ok b O L hL hB) ⟨some 5937, [(3199, .un 4205), (3192, .tau 4205), (3170, .un 4379), (3165, .tau 4379), (3151, .un 4495), (3146, .tau 4495), (3049, .un 5937)]⟩ (.fn (rb_v121_ok b O L hL hB) ⟨some 5937, [(3227, .un 4022), (3222, .tau 4022), (3199, .un 4205), (3192, .tau 4205), (3170, .un 4379), (3165, .tau 4379), (3151, .un 4495), (3146, .tau 4495), (3049, .un 5937)]⟩ (.fn (rb_v123_ok b O L hL hB) ⟨some 5937, [(3254, .un 3854), (3247, .tau 3854), (3227, .un 4022), (3222, .tau 4022), (3199, .un 4205), (3192, .tau 4205), (3170, .un 4379), (3165, .tau 4379), (3151, .un 4495), (3146, .tau 4495), (3049, .un 5937)]⟩ (.fn (rb_v125_ok b O L hL hB) ⟨some 5937, [(3273, .un 3738), (3268, .tau 3738), (3254, .un 3854), (3247, .tau 3854), (3227, .un 4022), (3222, .tau 4022), (3199, .un 4205), (3192, .tau 4205), (3170, .un 4379), (3165, .tau 4379), (3151, .un 4495), (3146, .tau 4495), (3049, .un 5937)]⟩ (.fn (rb_v127_ok b O L hL hB) ⟨some 5937, [(3302, .un 3564), (3295, .tau 3564), (3273, .un 3738), (3268, .tau 3738), (3254, .un 3854), (3247, .tau 3854), (3227, .un 4022), (3222, .tau 4022), (3199, .un 4205), (3192, .tau 4205), (3170, .un 4379), (3165, .tau 4379), (3151, .un 4495), (3146, .tau 4495), (3049, .un 5937)]⟩ (.fn (rb_v129_ok b O L hL hB) ⟨some 5937, [(3332, .un 3381), (3325, .tau 3381), (3302, .un 3564), (3295, .tau 3564), (3273, .un 3738), (3268, .tau 3738), (3254, .un 3854), (3247, .tau 3854), (3227, .un 4022), (3222, .tau 4022), (3199, .un 4205), (3192, .tau 4205), (3170, .un 4379), (3165, .tau 4379), (3151, .un 4495), (3146, .tau 4495), (3049, .un 5937)]⟩ (.fn (rb_v131_ok b O L hL hB) ⟨some 5937, [(3359, .un 3213), (3352, .tau 3213), (3332, .un 3381), (3325, .tau 3381), (3302, .un 3564), (3295, .tau 3564), (3273, .un 3738), (3268, .tau 3738), (3254, .un 3854), (3247, .tau 3854), (3227, .un 4022), (3222, .tau 4022), (3199, .un 4205), (3192, .tau 4205), (3170, .un 4379), (3165, .tau 4379), (3151, .un 4495), (3146, .tau 4495), (3049, .un 5937)]⟩ (.fn (rb_v133_ok b O L hL hB) ⟨some 5937, [(3380, .un 3097), (3373, .tau 3097), (3359, .un 3213), (3352, .tau 3213), (3332, .un 3381), (3325, .tau 3381), (3302, .un 3564), (3295, .tau 3564), (3273, .un 3738), (3268, .tau 3738), (3254, .un 3854), (3247, .tau 3854), (3227, .un 4022), (3222, .tau 4022), (3199, .un 4205), (3192, .tau 4205), (3170, .un 4379), (3165, .tau 4379), (3151, .un 4495), (3146, .tau 4495), (3049, .un 5937)]⟩ (.fn (rb_v135_ok b O L hL hB) ⟨some 5937, [(3409, .un 2923), (3402, .tau 2923), (3380, .un 3097), (3373, .tau 3097), (3359, .un 3213), (3352, .tau 3213), (3332, .un 3381), (3325, .tau 3381), (3302, .un 3564), (3295, .tau 3564), (3273, .un 3738), (3268, .tau 3738), (3254, .un 3854), (3247, .tau 3854), (3227, .un 4022), (3222, .tau 4022), (3199, .un 4205), (3192, .tau 4205), (3170, .un 4379), (3165, .tau 4379), (3151, .un 4495), (3146, .tau 4495), (3049, .un 5937)]⟩ (.fn (rb_v137_ok b O L hL hB) ⟨some 5937, [(3439, .un 2740), (3432, .tau 2740), (3409, .un 2923), (3402, .tau 2923), (3380, .un 3097), (3373, .tau 3097), (3359, .un 3213), (3352, .tau 3213), (3332, .un 3381), (3325, .tau 3381), (3302, .un 3564), (3295, .tau 3564), (3273, .un 3738), (3268, .tau 3738), (3254, .un 3854), (3247, .tau 3854), (3227, .un 4022), (3222, .tau 4022), (3199, .un 4205), (3192, .tau 4205), (3170, .un 4379), (3165, .tau 4379), (3151, .un 4495), (3146, .tau 4495), (3049, .un 5937)]⟩ (.fn (rb_v139_ok b O L hL hB) ⟨some 5937, [(3466, .un 2572), (3459, .tau 2572), (3439, .un 2740), (3432, .tau 2740), (3409, .un 2923), (3402, .tau 2923), (3380, .un 3097), (3373, .tau 3097), (3359, .un 3213), (3352, .tau 3213), (3332, .un 3381), (3325, .tau 3381), (3302, .un 3564), (3295, .tau 3564), (3273, .un 3738), (3268, .tau 3738), (3254, .un 3854), (3247, .tau 3854), (3227, .un 4022), (3222, .tau 4022), (3199, .un 4205), (3192, .tau 4205), (3170, .un 4379), (3165, .tau 4379), (3151, .un 4495), (3146, .tau 4495), (3049, .un 5937)]⟩ (.fn (rb_v141_ok b O L hL hB) ⟨some 5937, [(3487, .un 2456), (3480, .tau 2456), (3466, .un 2572), (3459, .tau 2572), (3439, .un 2740), (3432, .tau 2740), (3409, .un 2923), (3402, .tau 2923), (3380, .un 3097), (3373, .tau 3097), (3359, .un 3213), (3352, .tau 3213), (3332, .un 3381), (3325, .tau 3381), (3302, .un 3564), (3295, .tau 3564), (3273, .un 3738), (3268, .tau 3738), (3254, .un 3854), (3247, .tau 3854), (3227, .un 4022), (3222, .tau 4022), (3199, .un 4205), (3192, .tau 4205), (3170, .un 4379), (3165, .tau 4379), (3151, .un 4495), (3146, .tau 4495), (3049, .un 5937)]⟩ (.fn (rb_v143_ok b O L hL hB) ⟨some 5937, [(3516, .un 2282), (3509, .tau 2282), (3487, .un 2456), (3480, .tau 2456), (3466, .un 2572), (3459, .tau 2572), (3439, .un 2740), (3432, .tau 2740), (3409, .un 2923), (3402, .tau 2923), (3380, .un 3097), (3373, .tau 3097), (3359, .un 3213), (3352, .tau 3213), (3332, .un 3381), (3325, .tau 3381), (3302, .un 3564), (3295, .tau 3564), (3273, .un 3738), (3268, .tau 3738), (3254, .un 3854), (3247, .tau 3854), (3227, .un 4022), (3222, .tau 4022), (3199, .un 4205), (3192, .tau 4205), (3170, .un 4379), (3165, .tau 4379), (3151, .un 4495), (3146, .tau 4495), (3049, .un 5937)]⟩ .nil)))))))))))))))))))))) (by kernel_rfl)) i hR

end Mine
end
section
open PySem PySem.W PySem.W.X PyProof.Rows
set_option maxRecDepth 100000
namespace Mine
noncomputable def rce0 (K : Params → KT) (w : World) (L : Lt) (τ : Nat → Nat) : Env := ⟨(fdK K w 135).scope, 137, 3, [(⟨⟨[98, 97, 115, 101]⟩⟩, 139), (⟨⟨[118, 97, 108, 117, 101, 115]⟩⟩, 138)], ⟨⟨[108, 97, 119, 46, 60, 108, 111, 99, 97, 108, 115, 62, 46]⟩⟩, some 135, (.ref 134), some 137, 0⟩
noncomputable def rcx1 (K : Params → KT) (w : World) (L : Lt) (τ : Nat → Nat) : PySem.Ctx := ctxC (.builtin "sum" ⟨[.ref 141], []⟩) [((funcC (bodyK K w 135) (rce0 K w L τ)), ⟨172, 11, 172, 27⟩), (callerC, ⟨0, 0, 0, 0⟩)]
noncomputable def rcc2 (K : Params → KT) (w : World) (L : Lt) (τ : Nat → Nat) : Ch := []
noncomputable def rc_sum (K : Params → KT) (w : World) (L : Lt) (vs : List Value) : FnC := ⟨rcx1 K w L, 142, fun τ => .ret (.int L.h (τ 368)), 146, rcc2 K w L, fun _ => [(141, ⟨.type "list", none, .seq (slc vs) 0, #[]⟩)]⟩
theorem rc_sum_ok (b : Pk) (L : Lt) (val : Nat → Int) (h63 : b.vs.length ≤ 63) (hv : ∀ i, i < b.vs.length → ∃ t, b.vs[i]? = some (.int (val i) t)) (hh : preSum val b.vs.length = L.h) : (rc_sum z0.1 b.w L b.vs).Ok (b.V z0.1) :=
  sum_ok (m := 142) (a := 141) (fun _ => rfl) ⟨rfl, rfl⟩ (fun z => ⟨fun _ => z, rfl⟩) (fun _ => by kernel_rfl) h63 hv hh
noncomputable def rck3 (K : Params → KT) (w : World) (L : Lt) (τ : Nat → Nat) : Code := loopC (stmtAt (bodyK K w 135) [3]) (.ref 157) (rce0 K w L τ)
noncomputable def rcx4 (K : Params → KT) (w : World) (L : Lt) (τ : Nat → Nat) : PySem.Ctx := ctxC (rck3 K w L τ) [((funcC (bodyK K w 135) (rce0 K w L τ)), ⟨175, 13, 175, 24⟩), (callerC, ⟨0, 0, 0, 0⟩)]
noncomputable def rco5 (K : Params → KT) (w : World) (L : Lt) (τ : Nat → Nat) : Obj := ⟨(.type "frame"), none, (.dict ⟨[entS w ⟨⟨[115, 99, 114, 105, 112, 116]⟩⟩ (τ 361) (.ref 136), entS w ⟨⟨[104, 101, 97, 100]⟩⟩ (τ 369) (.int L.h (τ 368)), entS w ⟨⟨[107]⟩⟩ (τ 382) (.int 2 (τ 374)), entS w ⟨⟨[110]⟩⟩ (τ 383) (.int 3 (τ 375))]⟩ 4), ⟨[]⟩⟩
noncomputable def rco6 (K : Params → KT) (w : World) (L : Lt) (τ : Nat → Nat) : Obj := ⟨(.type "cell"), none, (.cell (some (.ref 155))), ⟨[]⟩⟩
noncomputable def rco7 (K : Params → KT) (w : World) (L : Lt) (τ : Nat → Nat) : Obj := ⟨(.type "cell"), none, (.cell none), ⟨[]⟩⟩
noncomputable def rco8 (K : Params → KT) (w : World) (L : Lt) (τ : Nat → Nat) : Obj := ⟨(.type "list"), none, (.seq ⟨[(.int (L.v 0) (τ 389))]⟩ 0), ⟨[]⟩⟩
noncomputable def rco9 (K : Params → KT) (w : World) (L : Lt) (τ : Nat → Nat) : Obj := ⟨(.type "range_iterator"), none, (.fields ⟨[(.int 1 0), (.int 1 0), (.int 1 0)]⟩), ⟨[]⟩⟩
noncomputable def rcl10 (K : Params → KT) (w : World) (L : Lt) (τ : Nat → Nat) : List (Addr × Obj) := [(137, rco5 K w L τ), (138, rco6 K w L τ), (139, rco7 K w L τ), (155, rco8 K w L τ), (157, rco9 K w L τ)]
noncomputable def rcx11 (K : Params → KT) (w : World) (L : Lt) (τ : Nat → Nat) : PySem.Ctx := ctxC (.builtin "len" ⟨[.ref 136], []⟩) [((rck3 K w L τ), ⟨176, 62, 176, 73⟩), ((funcC (bodyK K w 135) (rce0 K w L τ)), ⟨175, 13, 175, 24⟩), (callerC, ⟨0, 0, 0, 0⟩)]
noncomputable def rc_len11 (K : Params → KT) (w : World) (L : Lt) (vs : List Value) : FnC := ⟨rcx11 K w L, 158, fun τ => .ret (.int (Int.ofNat vs.toArray.size) (τ 399)), 158, rcc2 K w L, fun _ => []⟩
theorem rc_len11_ok (b : Pk) (O : (b.V z0.1).Ok) (L : Lt) (h63 : b.vs.length ≤ 63) : (rc_len11 z0.1 b.w L b.vs).Ok (b.V z0.1) :=
  len_ok (m := 158) (a := 136) O (fun _ => rfl) ⟨rfl, rfl⟩ (fun z => ⟨fun _ => z, rfl⟩) (fun _ => by kernel_rfl) h63
noncomputable def rco13 (K : Params → KT) (w : World) (L : Lt) (τ : Nat → Nat) : Obj := ⟨(.type "frame"), none, (.dict ⟨[entS w ⟨⟨[115, 99, 114, 105, 112, 116]⟩⟩ (τ 361) (.ref 136), entS w ⟨⟨[104, 101, 97, 100]⟩⟩ (τ 369) (.int L.h (τ 368)), entS w ⟨⟨[107]⟩⟩ (τ 382) (.int 2 (τ 374)), entS w ⟨⟨[110]⟩⟩ (τ 383) (.int 3 (τ 375)), entS w ⟨⟨[114]⟩⟩ (τ 393) (.int 1 (τ 392))]⟩ 5), ⟨[]⟩⟩
noncomputable def rco14 (K : Params → KT) (w : World) (L : Lt) (τ : Nat → Nat) : Obj := ⟨(.type "list"), none, (.seq ⟨[(.int (L.v 0) (τ 389)), (.int (L.v 1) (τ 402))]⟩ 1), ⟨[]⟩⟩
noncomputable def rcl15 (K : Params → KT) (w : World) (L : Lt) (τ : Nat → Nat) : List (Addr × Obj) := [(137, rco13 K w L τ), (138, rco6 K w L τ), (139, rco7 K w L τ), (155, rco14 K w L τ)]
noncomputable def rc_vals (K : Params → KT) (w : World) (L : Lt) : Ctr := ⟨rcx4 K w L, fun τ => dF (rcx4 K w L τ).code, rcl10 K w L, rcc2 K w L, 158, fun τ => .next, rcl15 K w L, rcc2 K w L, 160⟩
noncomputable def rc_vals_s0_h (K : Params → KT) (w : World) (L : Lt) (xs : Nat → Int) (ts : Nat → Nat) (rest : List Value) (h1 : L.v 0 + 1 + 0 = L.v 1) : List (Nat × Act) := [(37, S), (29, .bi (bAdd (L.v 0 + 1) 0 (L.v 1) h1))]
theorem rc_vals_s0_t (b : Pk) (L : Lt) (xs : Nat → Int) (ts : Nat → Nat) (rest : List Value) (h1 : L.v 0 + 1 + 0 = L.v 1) : FinT ((b.on []).V z0.1) (rc_vals z0.1 b.w L) 113 (rc_vals_s0_h z0.1 b.w L xs ts rest h1) ⟨none, [(402, .off 9), (393, .off 1), (392, .off 0)]⟩ := by intro R p i τ υ; kernel_rfl
theorem rc_vals_s0_ok (b : Pk) (L : Lt) (xs : Nat → Int) (ts : Nat → Nat) (rest : List Value) (h1 : L.v 0 + 1 + 0 = L.v 1) (O : ((b.on []).V z0.1).Ok) (h63 : List.length (α := Value) [] ≤ 63) : (rc_vals z0.1 b.w L).Ok ((b.on []).V z0.1) := okF O (rc_vals_s0_t b L xs ts rest h1) (met .nil (by kernel_rfl))
noncomputable def rc_vals_s1_h (K : Params → KT) (w : World) (L : Lt) (xs : Nat → Int) (ts : Nat → Nat) (rest : List Value) (h1 : L.v 0 + 1 + 0 = L.v 1) : List (Nat × Act) := [(37, S), (29, .bi (bAdd (L.v 0 + 1) 0 (L.v 1) h1))]
theorem rc_vals_s1_t (b : Pk) (L : Lt) (xs : Nat → Int) (ts : Nat → Nat) (rest : List Value) (h1 : L.v 0 + 1 + 0 = L.v 1) : FinT ((b.on [.int (xs 0) (ts 0)]).V z0.1) (rc_vals z0.1 b.w L) 113 (rc_vals_s1_h z0.1 b.w L xs ts rest h1) ⟨none, [(402, .off 9), (393, .off 1), (392, .off 0)]⟩ := by intro R p i τ υ; kernel_rfl
theorem rc_vals_s1_ok (b : Pk) (L : Lt) (xs : Nat → Int) (ts : Nat → Nat) (rest : List Value) (h1 : L.v 0 + 1 + 0 = L.v 1) (O : ((b.on [.int (xs 0) (ts 0)]).V z0.1).Ok) (h63 : List.length (α := Value) [.int (xs 0) (ts 0)] ≤ 63) : (rc_vals z0.1 b.w L).Ok ((b.on [.int (xs 0) (ts 0)]).V z0.1) := okF O (rc_vals_s1_t b L xs ts rest h1) (met .nil (by kernel_rfl))
noncomputable def rc_len16 (K : Params → KT) (w : World) (L : Lt) (vs : List Value) : FnC := ⟨rcx11 K w L, 158, fun τ => .ret (.int (Int.ofNat vs.toArray.size) (τ 399)), 158, rcc2 K w L, fun _ => []⟩
theorem rc_len16_ok (b : Pk) (O : (b.V z0.1).Ok) (L : Lt) (h63 : b.vs.length ≤ 63) : (rc_len16 z0.1 b.w L b.vs).Ok (b.V z0.1) :=
  len_ok (m := 158) (a := 136) O (fun _ => rfl) ⟨rfl, rfl⟩ (fun z => ⟨fun _ => z, rfl⟩) (fun _ => by kernel_rfl) h63
noncomputable def rc_vals_s2_h (K : Params → KT) (w : World) (L : Lt) (xs : Nat → Int) (ts : Nat → Nat) (rest : List Value) (h1 : L.v 0 + 1 + (Int.fmod (xs 1) 15) = L.v 1) : List (Nat × Act) := [(59, .fn (rc_len16 K w L (.int (xs 0) (ts 0) :: .int (xs 1) (ts 1) :: rest)) ⟨none, [(392, .cnt)]⟩), (56, S), (53, .bi (aLt 1 (.int (xs 0) (ts 0) :: .int (xs 1) (ts 1) :: rest) (by simp only [List.length_cons]; omega))), (29, .bi (bAdd (L.v 0 + 1) (Int.fmod (xs 1) 15) (L.v 1) h1))]
theorem rc_vals_s2_t (b : Pk) (L : Lt) (xs : Nat → Int) (ts : Nat → Nat) (rest : List Value) (h1 : L.v 0 + 1 + (Int.fmod (xs 1) 15) = L.v 1) : FinT ((b.on (.int (xs 0) (ts 0) :: .int (xs 1) (ts 1) :: rest)).V z0.1) (rc_vals z0.1 b.w L) 123 (rc_vals_s2_h z0.1 b.w L xs ts rest h1) ⟨none, [(400, .un 59), (398, .tau 59), (392, .cnt)]⟩ := by intro R p i τ υ; kernel_rfl
theorem rc_vals_s2_ok (b : Pk) (L : Lt) (xs : Nat → Int) (ts : Nat → Nat) (rest : List Value) (h1 : L.v 0 + 1 + (Int.fmod (xs 1) 15) = L.v 1) (O : ((b.on (.int (xs 0) (ts 0) :: .int (xs 1) (ts 1) :: rest)).V z0.1).Ok) (h63 : List.length (α := Value) (.int (xs 0) (ts 0) :: .int (xs 1) (ts 1) :: rest) ≤ 63) : (rc_vals z0.1 b.w L).Ok ((b.on (.int (xs 0) (ts 0) :: .int (xs 1) (ts 1) :: rest)).V z0.1) := okF O (rc_vals_s2_t b L xs ts rest h1) (met (.fn (rc_len16_ok _ O L h63) ⟨none, [(392, .cnt)]⟩ .nil) (by kernel_rfl))
noncomputable def rce17 (K : Params → KT) (w : World) (L : Lt) (τ : Nat → Nat) : Env := ⟨(fdK K w 130).scope, 166, 3, [(⟨⟨[119, 111, 114, 100]⟩⟩, 170), (⟨⟨[109]⟩⟩, 169), (⟨⟨[115, 105, 122, 101]⟩⟩, 168), (⟨⟨[107]⟩⟩, 167)], ⟨⟨[95, 108, 97, 119, 95, 108, 121, 110, 100, 111, 110, 46, 60, 108, 111, 99, 97, 108, 115, 62, 46]⟩⟩, some 130, (.ref 129), some 166, 0⟩
noncomputable def rck18 (K : Params → KT) (w : World) (L : Lt) (τ : Nat → Nat) : Code := loopC (stmtAt (bodyK K w 130) [1, 0, 0]) (.ref 175) (rce17 K w L τ)
noncomputable def rck19 (K : Params → KT) (w : World) (L : Lt) (τ : Nat → Nat) : Code := loopC (stmtAt (bodyK K w 130) [1]) (.ref 173) (rce17 K w L τ)
noncomputable def rcx20 (K : Params → KT) (w : World) (L : Lt) (τ : Nat → Nat) : PySem.Ctx := ctxC (rck18 K w L τ) [((rck19 K w L τ), ⟨166, 21, 166, 37⟩), ((funcC (bodyK K w 130) (rce17 K w L τ)), ⟨164, 16, 164, 31⟩), ((funcC (bodyK K w 135) (rce0 K w L τ)), ⟨180, 16, 180, 33⟩), (callerC, ⟨0, 0, 0, 0⟩)]
noncomputable def rco21 (K : Params → KT) (w : World) (L : Lt) (τ : Nat → Nat) : Obj := ⟨(.type "frame"), none, (.dict ⟨[entS w ⟨⟨[115, 99, 114, 105, 112, 116]⟩⟩ (τ 361) (.ref 136), entS w ⟨⟨[104, 101, 97, 100]⟩⟩ (τ 369) (.int L.h (τ 368)), entS w ⟨⟨[107]⟩⟩ (τ 382) (.int 2 (τ 374)), entS w ⟨⟨[110]⟩⟩ (τ 383) (.int 3 (τ 375)), entS w ⟨⟨[114]⟩⟩ (τ 393) (.int 1 (τ 392)), entS w ⟨⟨[108, 101, 116, 116, 101, 114, 115]⟩⟩ (τ 410) (.str (rel L [0, 1]) (τ 409)), entS w ⟨⟨[114, 111, 119]⟩⟩ (τ 411) (.ref 165)]⟩ 7), ⟨[]⟩⟩
noncomputable def rco22 (K : Params → KT) (w : World) (L : Lt) (τ : Nat → Nat) : Obj := ⟨(.type "cell"), none, (.cell (some (.str ⟨⟨[65, 66, 67, 68, 69, 70, 71, 72, 73, 74, 75, 76, 77, 78, 79, 80, 81, 82, 83, 84, 85, 86, 87, 88, 89, 90, 97, 98, 99, 100, 101, 102, 103, 104, 105, 106, 107, 108, 109, 110, 111, 112, 113, 114, 115, 116, 117, 118, 119, 120, 121, 122, 48, 49, 50, 51, 52, 53, 54, 55, 56, 57, 43, 47]⟩⟩ (τ 403)))), ⟨[]⟩⟩
noncomputable def rco23 (K : Params → KT) (w : World) (L : Lt) (τ : Nat → Nat) : Obj := ⟨(.type "list"), none, (.seq ⟨[]⟩ 0), ⟨[]⟩⟩
noncomputable def rco24 (K : Params → KT) (w : World) (L : Lt) (τ : Nat → Nat) : Obj := ⟨(.type "frame"), none, (.dict ⟨[entS w ⟨⟨[110]⟩⟩ (τ 412) (.int 3 (τ 375)), entS w ⟨⟨[119, 111, 114, 100, 115]⟩⟩ (τ 413) (.ref 171)]⟩ 2), ⟨[]⟩⟩
noncomputable def rco25 (K : Params → KT) (w : World) (L : Lt) (τ : Nat → Nat) : Obj := ⟨(.type "cell"), none, (.cell (some (.int 2 (τ 374)))), ⟨[]⟩⟩
noncomputable def rco26 (K : Params → KT) (w : World) (L : Lt) (τ : Nat → Nat) : Obj := ⟨(.type "cell"), none, (.cell (some (.int 1 (τ 418)))), ⟨[]⟩⟩
noncomputable def rco27 (K : Params → KT) (w : World) (L : Lt) (τ : Nat → Nat) : Obj := ⟨(.type "range_iterator"), none, (.fields ⟨[(.int 2 0), (.int 2 0), (.int 1 0)]⟩), ⟨[]⟩⟩
noncomputable def rco28 (K : Params → KT) (w : World) (L : Lt) (τ : Nat → Nat) : Obj := ⟨(.type "range_iterator"), none, (.fields ⟨[(.int 0 0), (.int 2 0), (.int 1 0)]⟩), ⟨[]⟩⟩
noncomputable def rcl29 (K : Params → KT) (w : World) (L : Lt) (τ : Nat → Nat) : List (Addr × Obj) := [(137, rco21 K w L τ), (138, rco6 K w L τ), (139, rco22 K w L τ), (155, rco14 K w L τ), (165, rco23 K w L τ), (166, rco24 K w L τ), (167, rco25 K w L τ), (168, rco26 K w L τ), (169, rco7 K w L τ), (170, rco7 K w L τ), (171, rco23 K w L τ), (173, rco27 K w L τ), (175, rco28 K w L τ)]
noncomputable def rco30 (K : Params → KT) (w : World) (L : Lt) (τ : Nat → Nat) : Obj := ⟨(.type "cell"), none, (.cell (some (.int 1 (τ 437)))), ⟨[]⟩⟩
noncomputable def rco31 (K : Params → KT) (w : World) (L : Lt) (τ : Nat → Nat) : Obj := ⟨(.type "cell"), none, (.cell (some (.ref 191))), ⟨[]⟩⟩
noncomputable def rco32 (K : Params → KT) (w : World) (L : Lt) (τ : Nat → Nat) : Obj := ⟨(.type "list"), none, (.seq ⟨[(.ref 178), (.ref 191)]⟩ 2), ⟨[]⟩⟩
noncomputable def rco33 (K : Params → KT) (w : World) (L : Lt) (τ : Nat → Nat) : Obj := ⟨(.type "list"), none, (.seq ⟨[(.int 0 (τ 434))]⟩ 1), ⟨[]⟩⟩
noncomputable def rco34 (K : Params → KT) (w : World) (L : Lt) (τ : Nat → Nat) : Obj := ⟨(.type "list"), none, (.seq ⟨[(.int 1 (τ 447))]⟩ 1), ⟨[]⟩⟩
noncomputable def rcl35 (K : Params → KT) (w : World) (L : Lt) (τ : Nat → Nat) : List (Addr × Obj) := [(137, rco21 K w L τ), (138, rco6 K w L τ), (139, rco22 K w L τ), (155, rco14 K w L τ), (165, rco23 K w L τ), (166, rco24 K w L τ), (167, rco25 K w L τ), (168, rco26 K w L τ), (169, rco30 K w L τ), (170, rco31 K w L τ), (171, rco32 K w L τ), (173, rco27 K w L τ), (178, rco33 K w L τ), (191, rco34 K w L τ)]
noncomputable def rc_lm17_0 (K : Params → KT) (w : World) (L : Lt) : Ctr := ⟨rcx20 K w L, fun τ => dF (rcx20 K w L τ).code, rcl29 K w L, rcc2 K w L, 176, fun τ => .next, rcl35 K w L, rcc2 K w L, 204⟩
noncomputable def rc_lm17_0_h (K : Params → KT) (w : World) (L : Lt) (hL : LtOk L 2) : List (Nat × Act) := [(469, S), (456, .comp .range), (338, S), (325, .comp .range), (301, S), (219, S), (206, .comp .range), (88, S), (75, .comp .range), (51, S)]
theorem rc_lm17_0_t (b : Pk) (L : Lt) (hL : LtOk L 2) : FinT (b.V z0.1) (rc_lm17_0 z0.1 b.w L) 517 (rc_lm17_0_h z0.1 b.w L hL) ⟨none, [(424, .cnt)]⟩ := by intro R p i τ υ; kernel_rfl
theorem rc_lm17_0_ok (b : Pk) (O : (b.V z0.1).Ok) (L : Lt) (hL : LtOk L 2) (hB : Bnd L) : (rc_lm17_0 z0.1 b.w L).Ok (b.V z0.1) := okF O (rc_lm17_0_t b L hL) (met .nil (by kernel_rfl))
noncomputable def rck36 (K : Params → KT) (w : World) (L : Lt) (τ : Nat → Nat) : Code := loopC (stmtAt (bodyK K w 130) [1, 0, 0]) (.ref 205) (rce17 K w L τ)
noncomputable def rcx37 (K : Params → KT) (w : World) (L : Lt) (τ : Nat → Nat) : PySem.Ctx := ctxC (rck36 K w L τ) [((rck19 K w L τ), ⟨166, 21, 166, 37⟩), ((funcC (bodyK K w 130) (rce17 K w L τ)), ⟨164, 16, 164, 31⟩), ((funcC (bodyK K w 135) (rce0 K w L τ)), ⟨180, 16, 180, 33⟩), (callerC, ⟨0, 0, 0, 0⟩)]
noncomputable def rco38 (K : Params → KT) (w : World) (L : Lt) (τ : Nat → Nat) : Obj := ⟨(.type "cell"), none, (.cell (some (.int 3 (τ 453)))), ⟨[]⟩⟩
noncomputable def rco39 (K : Params → KT) (w : World) (L : Lt) (τ : Nat → Nat) : Obj := ⟨(.type "range_iterator"), none, (.fields ⟨[(.int 4 0), (.int 0 0), (.int 1 0)]⟩), ⟨[]⟩⟩
noncomputable def rco40 (K : Params → KT) (w : World) (L : Lt) (τ : Nat → Nat) : Obj := ⟨(.type "range_iterator"), none, (.fields ⟨[(.int 0 0), (.int 8 0), (.int 1 0)]⟩), ⟨[]⟩⟩
noncomputable def rcl41 (K : Params → KT) (w : World) (L : Lt) (τ : Nat → Nat) : List (Addr × Obj) := [(137, rco21 K w L τ), (138, rco6 K w L τ), (139, rco22 K w L τ), (155, rco14 K w L τ), (165, rco23 K w L τ), (166, rco24 K w L τ), (167, rco25 K w L τ), (168, rco38 K w L τ), (169, rco30 K w L τ), (170, rco31 K w L τ), (171, rco32 K w L τ), (173, rco39 K w L τ), (178, rco33 K w L τ), (191, rco34 K w L τ), (205, rco40 K w L τ)]
noncomputable def rco42 (K : Params → KT) (w : World) (L : Lt) (τ : Nat → Nat) : Obj := ⟨(.type "cell"), none, (.cell (some (.int 5 (τ 624)))), ⟨[]⟩⟩
noncomputable def rco43 (K : Params → KT) (w : World) (L : Lt) (τ : Nat → Nat) : Obj := ⟨(.type "cell"), none, (.cell (some (.ref 323))), ⟨[]⟩⟩
noncomputable def rco44 (K : Params → KT) (w : World) (L : Lt) (τ : Nat → Nat) : Obj := ⟨(.type "list"), none, (.seq ⟨[(.ref 178), (.ref 191), (.ref 231), (.ref 277)]⟩ 4), ⟨[]⟩⟩
noncomputable def rco45 (K : Params → KT) (w : World) (L : Lt) (τ : Nat → Nat) : Obj := ⟨(.type "range_iterator"), none, (.fields ⟨[(.int 6 0), (.int 2 0), (.int 1 0)]⟩), ⟨[]⟩⟩
noncomputable def rco46 (K : Params → KT) (w : World) (L : Lt) (τ : Nat → Nat) : Obj := ⟨(.type "list"), none, (.seq ⟨[(.int 0 (τ 502)), (.int 0 (τ 510)), (.int 1 (τ 518))]⟩ 3), ⟨[]⟩⟩
noncomputable def rco47 (K : Params → KT) (w : World) (L : Lt) (τ : Nat → Nat) : Obj := ⟨(.type "list"), none, (.seq ⟨[(.int 0 (τ 568)), (.int 1 (τ 576)), (.int 1 (τ 584))]⟩ 3), ⟨[]⟩⟩
noncomputable def rcl48 (K : Params → KT) (w : World) (L : Lt) (τ : Nat → Nat) : List (Addr × Obj) := [(137, rco21 K w L τ), (138, rco6 K w L τ), (139, rco22 K w L τ), (155, rco14 K w L τ), (165, rco23 K w L τ), (166, rco24 K w L τ), (167, rco25 K w L τ), (168, rco38 K w L τ), (169, rco42 K w L τ), (170, rco43 K w L τ), (171, rco44 K w L τ), (173, rco39 K w L τ), (178, rco33 K w L τ), (191, rco34 K w L τ), (205, rco45 K w L τ), (231, rco46 K w L τ), (277, rco47 K w L τ)]
noncomputable def rcl49 (K : Params → KT) (w : World) (L : Lt) (τ : Nat → Nat) : List (Addr × Obj) := [(137, rco21 K w L τ), (138, rco6 K w L τ), (139, rco22 K w L τ), (155, rco14 K w L τ), (165, rco23 K w L τ), (166, rco24 K w L τ), (171, rco44 K w L τ), (173, rco39 K w L τ), (178, rco33 K w L τ), (191, rco34 K w L τ), (231, rco46 K w L τ), (277, rco47 K w L τ)]
noncomputable def rc_lm36_1 (K : Params → KT) (w : World) (L : Lt) : Ctr := ⟨rcx37 K w L, fun τ => dF (rcx37 K w L τ).code, rcl48 K w L, rcc2 K w L, 344, fun τ => .next, rcl49 K w L, rcc2 K w L, 392⟩
noncomputable def rc_lm36_1_h (K : Params → KT) (w : World) (L : Lt) (hL : LtOk L 2) : List (Nat × Act) := [(1136, S), (1123, .comp .range), (875, S), (862, .comp .range), (777, S), (771, Q), (768, S), (762, S), (662, S), (654, S), (648, S), (605, S), (547, S), (534, .comp .range), (286, S), (273, .comp .range), (188, S), (182, Q), (181, Q), (180, Q), (79, S), (73, Q), (72, Q), (71, Q), (27, S)]
theorem rc_lm36_1_t (b : Pk) (L : Lt) (hL : LtOk L 2) : FinT (b.V z0.1) (rc_lm36_1 z0.1 b.w L) 1184 (rc_lm36_1_h z0.1 b.w L hL) ⟨none, [(657, .cnt)]⟩ := by intro R p i τ υ; kernel_rfl
theorem rc_lm36_1_ok (b : Pk) (O : (b.V z0.1).Ok) (L : Lt) (hL : LtOk L 2) (hB : Bnd L) : (rc_lm36_1 z0.1 b.w L).Ok (b.V z0.1) := okF O (rc_lm36_1_t b L hL) (met .nil (by kernel_rfl))
noncomputable def rc_lm36_0 (K : Params → KT) (w : World) (L : Lt) : Ctr := ⟨rcx37 K w L, fun τ => dF (rcx37 K w L τ).code, rcl41 K w L, rcc2 K w L, 206, fun τ => .next, rcl49 K w L, rcc2 K w L, 392⟩
noncomputable def rc_lm36_0_h (K : Params → KT) (w : World) (L : Lt) (hL : LtOk L 2) : List (Nat × Act) := [(3469, S), (3456, .comp .range), (3208, S), (3195, .comp .range), (3110, S), (3104, Q), (3103, Q), (3102, Q), (3001, S), (2995, Q), (2994, Q), (2993, Q), (2949, S), (2891, S), (2878, .comp .range), (2630, S), (2617, .comp .range), (2532, S), (2526, Q), (2523, S), (2517, S), (2426, S), (2418, S), (2412, S), (2378, S), (2296, S), (2283, .comp .range), (2035, S), (2022, .comp .range), (1937, S), (1929, S), (1923, S), (1832, S), (1826, Q), (1823, S), (1817, S), (1774, S), (1716, S), (1703, .comp .range), (1455, S), (1442, .comp .range), (1357, S), (1349, S), (1343, S), (1252, S), (1244, S), (1238, S), (1204, S), (1122, S), (1109, .comp .range), (861, S), (848, .comp .range), (763, S), (755, S), (749, S), (649, S), (641, S), (635, S), (592, S), (534, S), (521, .comp .range), (273, S), (260, .comp .range), (175, S), (167, S), (161, S), (61, S), (55, Q), (52, S), (46, S), (12, S), (1, .meet)]
theorem rc_lm36_0_t (b : Pk) (L : Lt) (hL : LtOk L 2) : NextT (b.V z0.1) (rc_lm36_0 z0.1 b.w L) (rc_lm36_1 z0.1 b.w L) 3517 (rc_lm36_0_h z0.1 b.w L hL) ⟨none, [(459, .cnt)]⟩ := by intro R p i τ υ; kernel_rfl
theorem rc_lm36_0_ok (b : Pk) (O : (b.V z0.1).Ok) (L : Lt) (hL : LtOk L 2) (hB : Bnd L) : (rc_lm36_0 z0.1 b.w L).Ok (b.V z0.1) := okN O (rc_lm36_0_t b L hL) (rc_lm36_1_ok b O L hL hB) ⟨rfl, rfl, rfl, rfl⟩ (met .nil (by kernel_rfl))
noncomputable def rck50 (K : Params → KT) (w : World) (L : Lt) (τ : Nat → Nat) : Code := loopC (stmtAt (bodyK K w 135) [7]) (.ref 398) (rce0 K w L τ)
noncomputable def rcx51 (K : Params → KT) (w : World) (L : Lt) (τ : Nat → Nat) : PySem.Ctx := ctxC (rck50 K w L τ) [((funcC (bodyK K w 135) (rce0 K w L τ)), ⟨180, 16, 180, 33⟩), (callerC, ⟨0, 0, 0, 0⟩)]
noncomputable def rco52 (K : Params → KT) (w : World) (L : Lt) (τ : Nat → Nat) : Obj := ⟨(.type "list"), none, (.seq ⟨[(.ref 178), (.ref 231), (.ref 277), (.ref 191)]⟩ 2), ⟨[]⟩⟩
noncomputable def rco53 (K : Params → KT) (w : World) (L : Lt) (τ : Nat → Nat) : Obj := ⟨(.type "list_iterator"), none, (.fields ⟨[(.ref 395), (.int 0 0)]⟩), ⟨[]⟩⟩
noncomputable def rcl54 (K : Params → KT) (w : World) (L : Lt) (τ : Nat → Nat) : List (Addr × Obj) := [(137, rco21 K w L τ), (138, rco6 K w L τ), (139, rco22 K w L τ), (155, rco14 K w L τ), (165, rco23 K w L τ), (178, rco33 K w L τ), (191, rco34 K w L τ), (231, rco46 K w L τ), (277, rco47 K w L τ), (395, rco52 K w L τ), (398, rco53 K w L τ)]
noncomputable def rco55 (K : Params → KT) (w : World) (L : Lt) (τ : Nat → Nat) : Obj := ⟨(.type "frame"), none, (.dict ⟨[entS w ⟨⟨[115, 99, 114, 105, 112, 116]⟩⟩ (τ 361) (.ref 136), entS w ⟨⟨[104, 101, 97, 100]⟩⟩ (τ 369) (.int L.h (τ 368)), entS w ⟨⟨[107]⟩⟩ (τ 382) (.int 2 (τ 374)), entS w ⟨⟨[110]⟩⟩ (τ 383) (.int 3 (τ 375)), entS w ⟨⟨[114]⟩⟩ (τ 393) (.int 1 (τ 392)), entS w ⟨⟨[108, 101, 116, 116, 101, 114, 115]⟩⟩ (τ 410) (.str (rel L [0, 1]) (τ 409)), entS w ⟨⟨[114, 111, 119]⟩⟩ (τ 411) (.ref 165), entS w ⟨⟨[119, 111, 114, 100]⟩⟩ (τ 723) (.ref 191)]⟩ 8), ⟨[]⟩⟩
noncomputable def rco56 (K : Params → KT) (w : World) (L : Lt) (τ : Nat → Nat) : Obj := ⟨(.type "list"), none, (.seq ⟨[(.int (L.v 0) (τ 389)), (.int (L.v 0) (τ 389)), (.int (L.v 0) (τ 389)), (.int (L.v 1) (τ 402)), (.int (L.v 0) (τ 389)), (.int (L.v 1) (τ 402)), (.int (L.v 1) (τ 402)), (.int (L.v 1) (τ 402))]⟩ 4), ⟨[]⟩⟩
noncomputable def rcl57 (K : Params → KT) (w : World) (L : Lt) (τ : Nat → Nat) : List (Addr × Obj) := [(137, rco55 K w L τ), (139, rco22 K w L τ), (165, rco56 K w L τ)]
noncomputable def rc_row50_0 (K : Params → KT) (w : World) (L : Lt) : Ctr := ⟨rcx51 K w L, fun τ => dF (rcx51 K w L τ).code, rcl54 K w L, rcc2 K w L, 399, fun τ => .next, rcl57 K w L, rcc2 K w L, 421⟩
noncomputable def rc_row50_0_h (K : Params → KT) (w : World) (L : Lt) (hL : LtOk L 2) : List (Nat × Act) := [(633, S), (623, .comp .list), (512, S), (502, .comp .list), (313, S), (303, .comp .list), (114, S), (104, .comp .list)]
theorem rc_row50_0_t (b : Pk) (L : Lt) (hL : LtOk L 2) : FinT (b.V z0.1) (rc_row50_0 z0.1 b.w L) 659 (rc_row50_0_h z0.1 b.w L hL) ⟨none, [(723, .cnt)]⟩ := by intro R p i τ υ; kernel_rfl
theorem rc_row50_0_ok (b : Pk) (O : (b.V z0.1).Ok) (L : Lt) (hL : LtOk L 2) (hB : Bnd L) : (rc_row50_0 z0.1 b.w L).Ok (b.V z0.1) := okF O (rc_row50_0_t b L hL) (met .nil (by kernel_rfl))
noncomputable def rce58 (K : Params → KT) (w : World) (L : Lt) (τ : Nat → Nat) : Env := ⟨(fdK K w 125).scope, 426, 3, [(⟨⟨[98, 101, 104, 105, 110, 100]⟩⟩, 428), (⟨⟨[116, 101, 120, 116]⟩⟩, 427)], ⟨⟨[95, 108, 97, 119, 95, 103, 114, 111, 119, 110, 46, 60, 108, 111, 99, 97, 108, 115, 62, 46]⟩⟩, some 125, (.ref 124), some 426, 0⟩
noncomputable def rck59 (K : Params → KT) (w : World) (L : Lt) (τ : Nat → Nat) : Code := loopC (stmtAt (bodyK K w 125) [1]) .none (rce58 K w L τ)
noncomputable def rcx60 (K : Params → KT) (w : World) (L : Lt) (τ : Nat → Nat) : PySem.Ctx := ctxC (rck59 K w L τ) [((funcC (bodyK K w 125) (rce58 K w L τ)), ⟨155, 4, 160, 24⟩), ((funcC (bodyK K w 135) (rce0 K w L τ)), ⟨183, 11, 183, 33⟩), (callerC, ⟨0, 0, 0, 0⟩)]
noncomputable def rco61 (K : Params → KT) (w : World) (L : Lt) (τ : Nat → Nat) : Obj := ⟨(.type "frame"), none, (.dict ⟨[entS w ⟨⟨[115, 99, 114, 105, 112, 116]⟩⟩ (τ 361) (.ref 136), entS w ⟨⟨[104, 101, 97, 100]⟩⟩ (τ 369) (.int L.h (τ 368)), entS w ⟨⟨[107]⟩⟩ (τ 382) (.int 2 (τ 374)), entS w ⟨⟨[110]⟩⟩ (τ 383) (.int 3 (τ 375)), entS w ⟨⟨[114]⟩⟩ (τ 393) (.int 1 (τ 392)), entS w ⟨⟨[108, 101, 116, 116, 101, 114, 115]⟩⟩ (τ 410) (.str (rel L [0, 1]) (τ 409)), entS w ⟨⟨[114, 111, 119]⟩⟩ (τ 411) (.ref 165), entS w ⟨⟨[119, 111, 114, 100]⟩⟩ (τ 723) (.ref 191), entS w ⟨⟨[115, 105, 103, 110, 115]⟩⟩ (τ 757) (.str (rel L [0, 0, 0, 1, 0, 1, 1, 1]) (τ 756))]⟩ 9), ⟨[]⟩⟩
noncomputable def rco62 (K : Params → KT) (w : World) (L : Lt) (τ : Nat → Nat) : Obj := ⟨(.type "frame"), none, (.dict ⟨[entS w ⟨⟨[108, 101, 116, 116, 101, 114, 115]⟩⟩ (τ 758) (.str (rel L [0, 1]) (τ 409)), entS w ⟨⟨[110]⟩⟩ (τ 759) (.int 3 (τ 375))]⟩ 2), ⟨[]⟩⟩
noncomputable def rco63 (K : Params → KT) (w : World) (L : Lt) (τ : Nat → Nat) : Obj := ⟨(.type "cell"), none, (.cell (some (.str (rel L [1, 1, 1]) (τ 763)))), ⟨[]⟩⟩
noncomputable def rcl64 (K : Params → KT) (w : World) (L : Lt) (τ : Nat → Nat) : List (Addr × Obj) := [(137, rco61 K w L τ), (165, rco56 K w L τ), (426, rco62 K w L τ), (427, rco63 K w L τ), (428, rco7 K w L τ)]
noncomputable def rco65 (K : Params → KT) (w : World) (L : Lt) (τ : Nat → Nat) : Obj := ⟨(.type "frame"), none, (.dict ⟨[entS w ⟨⟨[115, 99, 114, 105, 112, 116]⟩⟩ (τ 361) (.ref 136), entS w ⟨⟨[104, 101, 97, 100]⟩⟩ (τ 369) (.int L.h (τ 368)), entS w ⟨⟨[107]⟩⟩ (τ 382) (.int 2 (τ 374)), entS w ⟨⟨[110]⟩⟩ (τ 383) (.int 3 (τ 375)), entS w ⟨⟨[114]⟩⟩ (τ 393) (.int 1 (τ 392)), entS w ⟨⟨[108, 101, 116, 116, 101, 114, 115]⟩⟩ (τ 410) (.str (rel L [0, 1]) (τ 409)), entS w ⟨⟨[114, 111, 119]⟩⟩ (τ 411) (.ref 165), entS w ⟨⟨[119, 111, 114, 100]⟩⟩ (τ 723) (.ref 191), entS w ⟨⟨[115, 105, 103, 110, 115]⟩⟩ (τ 757) (.str (rel L [0, 0, 0, 1, 0, 1, 1, 1]) (τ 756))]⟩ 9), ⟨[(some (.ref 134)), (some (.ref 3)), none, (some .notImplemented), none, (some (.ref 135)), (some (.ref 0)), (some (.ref 139)), (some (.ref 138))]⟩⟩
noncomputable def rco66 (K : Params → KT) (w : World) (L : Lt) (τ : Nat → Nat) : Obj := ⟨(.type "frame"), none, (.dict ⟨[entS w ⟨⟨[108, 101, 116, 116, 101, 114, 115]⟩⟩ (τ 758) (.str (rel L [0, 1]) (τ 409)), entS w ⟨⟨[110]⟩⟩ (τ 759) (.int 3 (τ 375)), entS w ⟨⟨[102, 114, 101, 115, 104]⟩⟩ (τ 830) (.ref 501)]⟩ 3), ⟨[(some (.ref 124)), (some (.ref 3)), none, (some (.ref 137)), none, (some (.ref 125)), (some (.ref 0)), (some (.ref 428)), (some (.ref 427))]⟩⟩
noncomputable def rco67 (K : Params → KT) (w : World) (L : Lt) (τ : Nat → Nat) : Obj := ⟨(.type "cell"), none, (.cell (some (.str (rel L [1, 1, 1, 0, 0, 0]) (τ 976)))), ⟨[]⟩⟩
noncomputable def rco68 (K : Params → KT) (w : World) (L : Lt) (τ : Nat → Nat) : Obj := ⟨(.type "cell"), none, (.cell (some (.str (rel L [0, 0]) (τ 913)))), ⟨[]⟩⟩
noncomputable def rco69 (K : Params → KT) (w : World) (L : Lt) (τ : Nat → Nat) : Obj := ⟨(.type "code"), none, .fields ⟨[(.str ⟨⟨[99, 111, 111, 114, 100, 95, 114, 101, 112, 114]⟩⟩ (τ 794)), (.str ⟨⟨[115, 117, 102, 102, 105, 120, 101, 100, 95, 101, 114, 114, 46, 60, 108, 111, 99, 97, 108, 115, 62, 46, 99, 111, 111, 114, 100, 95, 114, 101, 112, 114]⟩⟩ (τ 795)), (.str ⟨⟨[47, 99, 108, 97, 105, 109, 47, 99, 117, 116, 46, 112, 121]⟩⟩ (τ 796)), (.int 21 0), (.int 2 0), (.int 0 0), (.int 0 0), (.int 19 0), (.ref 440), (.bool true), (.int 181 0), (.ref 441), .none, (.ref 442), (.ref 443), (.ref 444), (.int (τ 801 : Nat) 0), (.int 21 0), (.str ⟨⟨[47, 99, 108, 97, 105, 109, 47, 99, 117, 116, 46, 112, 121]⟩⟩ (τ 802))]⟩, ⟨[]⟩⟩
noncomputable def rcl70 (K : Params → KT) (w : World) (L : Lt) (τ : Nat → Nat) : List (Addr × Obj) := [(137, rco65 K w L τ), (165, rco56 K w L τ), (426, rco66 K w L τ), (427, rco67 K w L τ), (428, rco68 K w L τ), (445, rco69 K w L τ)]
noncomputable def rcc71 (K : Params → KT) (w : World) (L : Lt) (τ : Nat → Nat) : Ch := [(43, ⟨[(.int 21 0), (.int 4 0), (.ref 445)]⟩)]
noncomputable def rco72 (K : Params → KT) (w : World) (L : Lt) (τ : Nat → Nat) : Obj := ⟨(.type "frame"), none, (.dict ⟨[entS w ⟨⟨[108, 101, 116, 116, 101, 114, 115]⟩⟩ (τ 758) (.str (rel L [0, 1]) (τ 409)), entS w ⟨⟨[110]⟩⟩ (τ 759) (.int 3 (τ 375)), entS w ⟨⟨[102, 114, 101, 115, 104]⟩⟩ (τ 830) (.ref 629)]⟩ 3), ⟨[(some (.ref 124)), (some (.ref 3)), none, (some (.ref 137)), none, (some (.ref 125)), (some (.ref 0)), (some (.ref 428)), (some (.ref 427))]⟩⟩
noncomputable def rco73 (K : Params → KT) (w : World) (L : Lt) (τ : Nat → Nat) : Obj := ⟨(.type "cell"), none, (.cell (some (.str (rel L [1, 1, 1, 0, 0, 0, 1, 0, 1, 1]) (τ 1251)))), ⟨[]⟩⟩
noncomputable def rco74 (K : Params → KT) (w : World) (L : Lt) (τ : Nat → Nat) : Obj := ⟨(.type "cell"), none, (.cell (some (.str (rel L [0, 1]) (τ 1189)))), ⟨[]⟩⟩
noncomputable def rcl75 (K : Params → KT) (w : World) (L : Lt) (τ : Nat → Nat) : List (Addr × Obj) := [(137, rco65 K w L τ), (165, rco56 K w L τ), (426, rco72 K w L τ), (427, rco73 K w L τ), (428, rco74 K w L τ)]
noncomputable def rcl76 (K : Params → KT) (w : World) (L : Lt) (τ : Nat → Nat) : List (Addr × Obj) := [(137, rco65 K w L τ), (165, rco56 K w L τ)]
noncomputable def rc_grow58_2 (K : Params → KT) (w : World) (L : Lt) : Ctr := ⟨rcx60 K w L, fun τ => dF (rcx60 K w L τ).code, rcl75 K w L, rcc71 K w L, 656, fun τ => (.ret (.str (rel L [1, 1, 1, 0, 0, 0, 1, 0, 1, 1]) (τ 1251))), rcl76 K w L, rcc71 K w L, 679⟩
noncomputable def rc_grow58_2_h (K : Params → KT) (w : World) (L : Lt) (hL : LtOk L 2) : List (Nat × Act) := [(646, S), (591, S), (588, .bi (biIter hL [0, 1] rfl)), (580, .comp .ascii), (456, .bi (biIndex hL [1, 1, 1, 0, 0, 0, 1, 0, 1, 1] [1, 1, 0] rfl rfl)), (416, S), (413, .bi (biIter hL [1] rfl)), (398, S), (317, S), (314, .bi (biEq hL [1, 1, 0] [1, 1, 0] rfl rfl)), (185, .bi (biIndex hL [1, 1, 1, 0, 0, 0, 1, 0, 1, 1] [1, 1, 1] rfl rfl)), (145, S), (67, S), (64, .bi (biEq hL [1, 1, 1] [1, 1, 1] rfl rfl)), (18, S)]
theorem rc_grow58_2_t (b : Pk) (L : Lt) (hL : LtOk L 2) : FinT (b.V z0.1) (rc_grow58_2 z0.1 b.w L) 665 (rc_grow58_2_h z0.1 b.w L hL) ⟨none, [(1252, .cnt)]⟩ := by intro R p i τ υ; kernel_rfl
theorem rc_grow58_2_ok (b : Pk) (O : (b.V z0.1).Ok) (L : Lt) (hL : LtOk L 2) (hB : Bnd L) : (rc_grow58_2 z0.1 b.w L).Ok (b.V z0.1) := okF O (rc_grow58_2_t b L hL) (met .nil (by kernel_rfl))
noncomputable def rc_grow58_1 (K : Params → KT) (w : World) (L : Lt) : Ctr := ⟨rcx60 K w L, fun τ => dF (rcx60 K w L τ).code, rcl70 K w L, rcc71 K w L, 534, fun τ => (.ret (.str (rel L [1, 1, 1, 0, 0, 0, 1, 0, 1, 1]) (τ 1251))), rcl76 K w L, rcc71 K w L, 679⟩
noncomputable def rc_grow58_1_h (K : Params → KT) (w : World) (L : Lt) (hL : LtOk L 2) : List (Nat × Act) := [(3825, S), (3770, S), (3767, .bi (biIter hL [0, 1] rfl)), (3759, .comp .ascii), (3635, .bi (biIndex hL [1, 1, 1, 0, 0, 0] [0, 0, 0] rfl rfl)), (3595, S), (3592, .bi (biIter hL [1, 1, 1] rfl)), (3577, S), (3557, S), (3537, S), (3456, S), (3453, .bi (biEq hL [0, 0, 0] [0, 0, 0] rfl rfl)), (3324, .bi (biIndex hL [1, 1, 1, 0, 0, 0] [0, 0, 1] rfl rfl)), (3251, S), (3248, .bi (biRepr hL [0, 0, 1] rfl rfl)), (3244, H (.cnt 50)), (3199, H (.cnt 50)), (3153, S), (3143, H (.un 3199 5)), (2958, S), (2904, S), (2849, S), (2846, .bi (biIter hL [0, 1] rfl)), (2838, .comp .ascii), (2714, .bi (biIndex hL [1, 1, 1, 0, 0, 0, 1] [0, 1, 0] rfl rfl)), (2641, S), (2638, .bi (biRepr hL [0, 1, 0] rfl rfl)), (2634, H (.un 3143 30)), (2589, H (.un 3143 30)), (2543, S), (2533, H (.un 2589 5)), (2265, .bi (biIndex hL [1, 1, 1, 0, 0, 0, 1] [0, 1, 1] rfl rfl)), (2192, S), (2189, .bi (biRepr hL [0, 1, 1] rfl rfl)), (2185, H (.un 2533 18)), (2140, H (.un 2533 18)), (2094, S), (2084, H (.un 2140 5)), (1899, S), (1845, S), (1790, S), (1787, .bi (biIter hL [0, 1] rfl)), (1779, .comp .ascii), (1655, .bi (biIndex hL [1, 1, 1, 0, 0, 0, 1, 0] [1, 0, 0] rfl rfl)), (1615, S), (1612, .bi (biIter hL [1, 1] rfl)), (1597, S), (1577, S), (1496, S), (1493, .bi (biEq hL [1, 0, 0] [1, 0, 0] rfl rfl)), (1364, .bi (biIndex hL [1, 1, 1, 0, 0, 0, 1, 0] [1, 0, 1] rfl rfl)), (1291, S), (1288, .bi (biRepr hL [1, 0, 1] rfl rfl)), (1284, H (.un 2084 53)), (1239, H (.un 2084 53)), (1193, S), (1183, H (.un 1239 5)), (998, S), (944, S), (889, S), (886, .bi (biIter hL [0, 1] rfl)), (878, .comp .ascii), (754, .bi (biIndex hL [1, 1, 1, 0, 0, 0, 1, 0, 1] [0, 1, 0] rfl rfl)), (714, S), (711, .bi (biIter hL [1, 1, 1, 0, 0] rfl)), (696, S), (676, S), (656, S), (636, S), (616, S), (535, S), (532, .bi (biEq hL [0, 1, 0] [0, 1, 0] rfl rfl)), (403, .bi (biIndex hL [1, 1, 1, 0, 0, 0, 1, 0, 1] [0, 1, 1] rfl rfl)), (330, S), (327, .bi (biRepr hL [0, 1, 1] rfl rfl)), (323, H (.un 1183 59)), (278, H (.un 1183 59)), (232, S), (222, H (.un 278 5)), (37, S), (1, .meet)]
theorem rc_grow58_1_t (b : Pk) (L : Lt) (hL : LtOk L 2) : NextT (b.V z0.1) (rc_grow58_1 z0.1 b.w L) (rc_grow58_2 z0.1 b.w L) 3844 (rc_grow58_1_h z0.1 b.w L hL) ⟨none, [(1247, .un 222), (1241, .un 278), (1236, .un 323), (1176, .un 1183), (1170, .un 1239), (1165, .un 1284), (1111, .un 2084), (1105, .un 2140), (1100, .un 2185), (1081, .un 2533), (1075, .un 2589), (1070, .un 2634), (1039, .un 3143), (1033, .un 3199), (1028, .un 3244), (977, .cnt)]⟩ := by intro R p i τ υ; kernel_rfl
theorem rc_grow58_1_ok (b : Pk) (O : (b.V z0.1).Ok) (L : Lt) (hL : LtOk L 2) (hB : Bnd L) : (rc_grow58_1 z0.1 b.w L).Ok (b.V z0.1) := okN O (rc_grow58_1_t b L hL) (rc_grow58_2_ok b O L hL hB) ⟨rfl, rfl, rfl, rfl⟩ (met .nil (by kernel_rfl))
noncomputable def rc_grow58_0 (K : Params → KT) (w : World) (L : Lt) : Ctr := ⟨rcx60 K w L, fun τ => dF (rcx60 K w L τ).code, rcl64 K w L, rcc2 K w L, 429, fun τ => (.ret (.str (rel L [1, 1, 1, 0, 0, 0, 1, 0, 1, 1]) (τ 1251))), rcl76 K w L, rcc71 K w L, 679⟩
noncomputable def rc_grow58_0_h (K : Params → KT) (w : World) (L : Lt) (hL : LtOk L 2) : List (Nat × Act) := [(2983, S), (2928, S), (2925, .bi (biIter hL [0, 1] rfl)), (2917, .comp .ascii), (2793, .bi (biIndex hL [1, 1, 1] [1, 1, 0] rfl rfl)), (2716, S), (2713, .bi (biRepr hL [1, 1, 0] rfl rfl)), (2709, H (.cnt 25)), (2646, H (.cnt 25)), (2600, S), (2590, H (.un 2646 5)), (2322, .bi (biIndex hL [1, 1, 1] [1, 1, 1] rfl rfl)), (2282, S), (2204, S), (2201, .bi (biEq hL [1, 1, 1] [1, 1, 1] rfl rfl)), (2155, S), (2101, S), (2046, S), (2043, .bi (biIter hL [0, 1] rfl)), (2035, .comp .ascii), (1911, .bi (biIndex hL [1, 1, 1, 0] [1, 0, 0] rfl rfl)), (1838, S), (1835, .bi (biRepr hL [1, 0, 0] rfl rfl)), (1831, H (.un 2590 48)), (1786, H (.un 2590 48)), (1740, S), (1730, H (.un 1786 5)), (1462, .bi (biIndex hL [1, 1, 1, 0] [1, 0, 1] rfl rfl)), (1389, S), (1386, .bi (biRepr hL [1, 0, 1] rfl rfl)), (1382, H (.un 1730 18)), (1337, H (.un 1730 18)), (1291, S), (1281, H (.un 1337 5)), (1096, S), (1042, S), (987, S), (984, .bi (biIter hL [0, 1] rfl)), (976, .comp .ascii), (852, .bi (biIndex hL [1, 1, 1, 0, 0] [0, 0, 0] rfl rfl)), (779, S), (776, .bi (biRepr hL [0, 0, 0] rfl rfl)), (772, H (.un 1281 30)), (727, H (.un 1281 30)), (681, S), (671, H (.un 727 5)), (403, .bi (biIndex hL [1, 1, 1, 0, 0] [0, 0, 1] rfl rfl)), (330, S), (327, .bi (biRepr hL [0, 0, 1] rfl rfl)), (323, H (.un 671 18)), (278, H (.un 671 18)), (232, S), (222, H (.un 278 5)), (37, S), (1, .meet)]
theorem rc_grow58_0_t (b : Pk) (L : Lt) (hL : LtOk L 2) : NextT (b.V z0.1) (rc_grow58_0 z0.1 b.w L) (rc_grow58_1 z0.1 b.w L) 3002 (rc_grow58_0_h z0.1 b.w L hL) ⟨none, [(972, .un 222), (966, .un 278), (961, .un 323), (942, .un 671), (936, .un 727), (931, .un 772), (900, .un 1281), (894, .un 1337), (889, .un 1382), (870, .un 1730), (864, .un 1786), (859, .un 1831), (810, .un 2590), (804, .un 2646), (790, .un 2709), (764, .cnt)]⟩ := by intro R p i τ υ; kernel_rfl
theorem rc_grow58_0_ok (b : Pk) (O : (b.V z0.1).Ok) (L : Lt) (hL : LtOk L 2) (hB : Bnd L) : (rc_grow58_0 z0.1 b.w L).Ok (b.V z0.1) := okN O (rc_grow58_0_t b L hL) (rc_grow58_1_ok b O L hL hB) ⟨rfl, rfl, rfl, rfl⟩ (met .nil (by kernel_rfl))
noncomputable def rce77 (K : Params → KT) (w : World) (L : Lt) (τ : Nat → Nat) : Env := ⟨(fdK K w 98).scope, 692, 3, [], ⟨⟨[97, 50, 98, 95, 98, 97, 115, 101, 54, 52, 46, 60, 108, 111, 99, 97, 108, 115, 62, 46]⟩⟩, some 98, (.ref 97), some 692, 0⟩
noncomputable def rck78 (K : Params → KT) (w : World) (L : Lt) (τ : Nat → Nat) : Code := loopC (stmtAt (bodyK K w 98) [7]) (.ref 696) (rce77 K w L τ)
noncomputable def rce79 (K : Params → KT) (w : World) (L : Lt) (τ : Nat → Nat) : Env := ⟨(fdK K w 106).scope, 690, 3, [], ⟨⟨[98, 54, 52, 100, 101, 99, 111, 100, 101, 46, 60, 108, 111, 99, 97, 108, 115, 62, 46]⟩⟩, some 106, (.ref 105), some 690, 0⟩
noncomputable def rcx80 (K : Params → KT) (w : World) (L : Lt) (τ : Nat → Nat) : PySem.Ctx := ctxC (.call (.ref 90) ⟨[.int (bv L 0) (τ 1372)], []⟩) [((rck78 K w L τ), ⟨98, 18, 98, 37⟩), ((funcC (bodyK K w 98) (rce77 K w L τ)), ⟨84, 19, 84, 29⟩), ((funcC (bodyK K w 106) (rce79 K w L τ)), ⟨137, 11, 137, 46⟩), ((funcC (bodyK K w 135) (rce0 K w L τ)), ⟨187, 11, 187, 88⟩), (callerC, ⟨0, 0, 0, 0⟩)]
noncomputable def rc_v77 (K : Params → KT) (w : World) (L : Lt) : FnC := ⟨rcx80 K w L, 697, fun τ => .ret (.int (L.v 0) (τ 1379)), 698, rcc71 K w L, fun _ => []⟩
noncomputable def rc_v77_U_h (K : Params → KT) (w : World) (L : Lt) (c : Cls L 0 65 90 65) : List (Nat × Act) := [(23, S), (20, .bi (cLeT c 65 rfl)), (16, S), (13, .bi (cGeT c 90 rfl)), (4, .bi (cSub c 65 rfl))]
theorem rc_v77_U_t (b : Pk) (L : Lt) (c : Cls L 0 65 90 65) : FnT (b.V z0.1) (rc_v77 z0.1 b.w L) 40 (rc_v77_U_h z0.1 b.w L c) ⟨none, [(1375, .cnt)]⟩ := by intro h₁ R p i τ υ; kernel_rfl
theorem rc_v77_U_ok (b : Pk) (O : (b.V z0.1).Ok) (L : Lt) (c : Cls L 0 65 90 65) : (rc_v77 z0.1 b.w L).Ok (b.V z0.1) := okFn O (rc_v77_U_t b L c) (by kernel_rfl) (by kernel_rfl)
theorem rc_v77_ok (b : Pk) (O : (b.V z0.1).Ok) (L : Lt) (hL : LtOk L 2) (hB : Bnd L) : (rc_v77 z0.1 b.w L).Ok (b.V z0.1) := by
  have z := hB.v0
  rcases cls_of hL (r := 0) rfl with ⟨_, c⟩ | ⟨e, _, c⟩ | ⟨e, _, c⟩ | ⟨e, c⟩ | ⟨e, c⟩
  · exact rc_v77_U_ok b O L c
  · omega
  · omega
  · omega
  · omega
noncomputable def rcx82 (K : Params → KT) (w : World) (L : Lt) (τ : Nat → Nat) : PySem.Ctx := ctxC (.call (.ref 90) ⟨[.int (bv L 0) (τ 1391)], []⟩) [((rck78 K w L τ), ⟨98, 18, 98, 37⟩), ((funcC (bodyK K w 98) (rce77 K w L τ)), ⟨84, 19, 84, 29⟩), ((funcC (bodyK K w 106) (rce79 K w L τ)), ⟨137, 11, 137, 46⟩), ((funcC (bodyK K w 135) (rce0 K w L τ)), ⟨187, 11, 187, 88⟩), (callerC, ⟨0, 0, 0, 0⟩)]
noncomputable def rc_v82 (K : Params → KT) (w : World) (L : Lt) : FnC := ⟨rcx82 K w L, 698, fun τ => .ret (.int (L.v 0) (τ 1398)), 699, rcc71 K w L, fun _ => []⟩
noncomputable def rc_v82_U_h (K : Params → KT) (w : World) (L : Lt) (c : Cls L 0 65 90 65) : List (Nat × Act) := [(23, S), (20, .bi (cLeT c 65 rfl)), (16, S), (13, .bi (cGeT c 90 rfl)), (4, .bi (cSub c 65 rfl))]
theorem rc_v82_U_t (b : Pk) (L : Lt) (c : Cls L 0 65 90 65) : FnT (b.V z0.1) (rc_v82 z0.1 b.w L) 40 (rc_v82_U_h z0.1 b.w L c) ⟨none, [(1394, .cnt)]⟩ := by intro h₁ R p i τ υ; kernel_rfl
theorem rc_v82_U_ok (b : Pk) (O : (b.V z0.1).Ok) (L : Lt) (c : Cls L 0 65 90 65) : (rc_v82 z0.1 b.w L).Ok (b.V z0.1) := okFn O (rc_v82_U_t b L c) (by kernel_rfl) (by kernel_rfl)
theorem rc_v82_ok (b : Pk) (O : (b.V z0.1).Ok) (L : Lt) (hL : LtOk L 2) (hB : Bnd L) : (rc_v82 z0.1 b.w L).Ok (b.V z0.1) := by
  have z := hB.v0
  rcases cls_of hL (r := 0) rfl with ⟨_, c⟩ | ⟨e, _, c⟩ | ⟨e, _, c⟩ | ⟨e, c⟩ | ⟨e, c⟩
  · exact rc_v82_U_ok b O L c
  · omega
  · omega
  · omega
  · omega
noncomputable def rcx84 (K : Params → KT) (w : World) (L : Lt) (τ : Nat → Nat) : PySem.Ctx := ctxC (.call (.ref 90) ⟨[.int (bv L 0) (τ 1418)], []⟩) [((rck78 K w L τ), ⟨98, 18, 98, 37⟩), ((funcC (bodyK K w 98) (rce77 K w L τ)), ⟨84, 19, 84, 29⟩), ((funcC (bodyK K w 106) (rce79 K w L τ)), ⟨137, 11, 137, 46⟩), ((funcC (bodyK K w 135) (rce0 K w L τ)), ⟨187, 11, 187, 88⟩), (callerC, ⟨0, 0, 0, 0⟩)]
noncomputable def rc_v84 (K : Params → KT) (w : World) (L : Lt) : FnC := ⟨rcx84 K w L, 699, fun τ => .ret (.int (L.v 0) (τ 1425)), 700, rcc71 K w L, fun _ => []⟩
noncomputable def rc_v84_U_h (K : Params → KT) (w : World) (L : Lt) (c : Cls L 0 65 90 65) : List (Nat × Act) := [(23, S), (20, .bi (cLeT c 65 rfl)), (16, S), (13, .bi (cGeT c 90 rfl)), (4, .bi (cSub c 65 rfl))]
theorem rc_v84_U_t (b : Pk) (L : Lt) (c : Cls L 0 65 90 65) : FnT (b.V z0.1) (rc_v84 z0.1 b.w L) 40 (rc_v84_U_h z0.1 b.w L c) ⟨none, [(1421, .cnt)]⟩ := by intro h₁ R p i τ υ; kernel_rfl
theorem rc_v84_U_ok (b : Pk) (O : (b.V z0.1).Ok) (L : Lt) (c : Cls L 0 65 90 65) : (rc_v84 z0.1 b.w L).Ok (b.V z0.1) := okFn O (rc_v84_U_t b L c) (by kernel_rfl) (by kernel_rfl)
theorem rc_v84_ok (b : Pk) (O : (b.V z0.1).Ok) (L : Lt) (hL : LtOk L 2) (hB : Bnd L) : (rc_v84 z0.1 b.w L).Ok (b.V z0.1) := by
  have z := hB.v0
  rcases cls_of hL (r := 0) rfl with ⟨_, c⟩ | ⟨e, _, c⟩ | ⟨e, _, c⟩ | ⟨e, c⟩ | ⟨e, c⟩
  · exact rc_v84_U_ok b O L c
  · omega
  · omega
  · omega
  · omega
noncomputable def rcx86 (K : Params → KT) (w : World) (L : Lt) (τ : Nat → Nat) : PySem.Ctx := ctxC (.call (.ref 90) ⟨[.int (bv L 1) (τ 1446)], []⟩) [((rck78 K w L τ), ⟨98, 18, 98, 37⟩), ((funcC (bodyK K w 98) (rce77 K w L τ)), ⟨84, 19, 84, 29⟩), ((funcC (bodyK K w 106) (rce79 K w L τ)), ⟨137, 11, 137, 46⟩), ((funcC (bodyK K w 135) (rce0 K w L τ)), ⟨187, 11, 187, 88⟩), (callerC, ⟨0, 0, 0, 0⟩)]
noncomputable def rc_v86 (K : Params → KT) (w : World) (L : Lt) : FnC := ⟨rcx86 K w L, 700, fun τ => .ret (.int (L.v 1) (τ 1455)), 701, rcc71 K w L, fun _ => []⟩
noncomputable def rc_v86_U_h (K : Params → KT) (w : World) (L : Lt) (c : Cls L 1 65 90 65) : List (Nat × Act) := [(23, S), (20, .bi (cLeT c 65 rfl)), (16, S), (13, .bi (cGeT c 90 rfl)), (4, .bi (cSub c 65 rfl))]
theorem rc_v86_U_t (b : Pk) (L : Lt) (c : Cls L 1 65 90 65) : FnT (b.V z0.1) (rc_v86 z0.1 b.w L) 40 (rc_v86_U_h z0.1 b.w L c) ⟨none, [(1451, .cnt)]⟩ := by intro h₁ R p i τ υ; kernel_rfl
theorem rc_v86_U_ok (b : Pk) (O : (b.V z0.1).Ok) (L : Lt) (c : Cls L 1 65 90 65) : (rc_v86 z0.1 b.w L).Ok (b.V z0.1) := okFn O (rc_v86_U_t b L c) (by kernel_rfl) (by kernel_rfl)
noncomputable def rc_v86_Lo_h (K : Params → KT) (w : World) (L : Lt) (c : Cls L 1 97 122 71) : List (Nat × Act) := [(40, S), (37, .bi (cLeT c 65 rfl)), (33, S), (30, .bi (cGeF c 90 rfl)), (23, S), (20, .bi (cLeT c 97 rfl)), (16, S), (13, .bi (cGeT c 122 rfl)), (4, .bi (cSub c 71 rfl))]
theorem rc_v86_Lo_t (b : Pk) (L : Lt) (c : Cls L 1 97 122 71) : FnT (b.V z0.1) (rc_v86 z0.1 b.w L) 57 (rc_v86_Lo_h z0.1 b.w L c) ⟨none, [(1449, .cnt)]⟩ := by intro h₁ R p i τ υ; kernel_rfl
theorem rc_v86_Lo_ok (b : Pk) (O : (b.V z0.1).Ok) (L : Lt) (c : Cls L 1 97 122 71) : (rc_v86 z0.1 b.w L).Ok (b.V z0.1) := okFn O (rc_v86_Lo_t b L c) (by kernel_rfl) (by kernel_rfl)
theorem rc_v86_ok (b : Pk) (O : (b.V z0.1).Ok) (L : Lt) (hL : LtOk L 2) (hB : Bnd L) : (rc_v86 z0.1 b.w L).Ok (b.V z0.1) := by
  have z := hB.v1
  rcases cls_of hL (r := 1) rfl with ⟨_, c⟩ | ⟨e, _, c⟩ | ⟨e, _, c⟩ | ⟨e, c⟩ | ⟨e, c⟩
  · exact rc_v86_U_ok b O L c
  · exact rc_v86_Lo_ok b O L c
  · omega
  · omega
  · omega
noncomputable def rcx88 (K : Params → KT) (w : World) (L : Lt) (τ : Nat → Nat) : PySem.Ctx := ctxC (.call (.ref 90) ⟨[.int (bv L 0) (τ 1473)], []⟩) [((rck78 K w L τ), ⟨98, 18, 98, 37⟩), ((funcC (bodyK K w 98) (rce77 K w L τ)), ⟨84, 19, 84, 29⟩), ((funcC (bodyK K w 106) (rce79 K w L τ)), ⟨137, 11, 137, 46⟩), ((funcC (bodyK K w 135) (rce0 K w L τ)), ⟨187, 11, 187, 88⟩), (callerC, ⟨0, 0, 0, 0⟩)]
noncomputable def rc_v88 (K : Params → KT) (w : World) (L : Lt) : FnC := ⟨rcx88 K w L, 701, fun τ => .ret (.int (L.v 0) (τ 1480)), 702, rcc71 K w L, fun _ => []⟩
noncomputable def rc_v88_U_h (K : Params → KT) (w : World) (L : Lt) (c : Cls L 0 65 90 65) : List (Nat × Act) := [(23, S), (20, .bi (cLeT c 65 rfl)), (16, S), (13, .bi (cGeT c 90 rfl)), (4, .bi (cSub c 65 rfl))]
theorem rc_v88_U_t (b : Pk) (L : Lt) (c : Cls L 0 65 90 65) : FnT (b.V z0.1) (rc_v88 z0.1 b.w L) 40 (rc_v88_U_h z0.1 b.w L c) ⟨none, [(1476, .cnt)]⟩ := by intro h₁ R p i τ υ; kernel_rfl
theorem rc_v88_U_ok (b : Pk) (O : (b.V z0.1).Ok) (L : Lt) (c : Cls L 0 65 90 65) : (rc_v88 z0.1 b.w L).Ok (b.V z0.1) := okFn O (rc_v88_U_t b L c) (by kernel_rfl) (by kernel_rfl)
theorem rc_v88_ok (b : Pk) (O : (b.V z0.1).Ok) (L : Lt) (hL : LtOk L 2) (hB : Bnd L) : (rc_v88 z0.1 b.w L).Ok (b.V z0.1) := by
  have z := hB.v0
  rcases cls_of hL (r := 0) rfl with ⟨_, c⟩ | ⟨e, _, c⟩ | ⟨e, _, c⟩ | ⟨e, c⟩ | ⟨e, c⟩
  · exact rc_v88_U_ok b O L c
  · omega
  · omega
  · omega
  · omega
noncomputable def rcx90 (K : Params → KT) (w : World) (L : Lt) (τ : Nat → Nat) : PySem.Ctx := ctxC (.call (.ref 90) ⟨[.int (bv L 1) (τ 1492)], []⟩) [((rck78 K w L τ), ⟨98, 18, 98, 37⟩), ((funcC (bodyK K w 98) (rce77 K w L τ)), ⟨84, 19, 84, 29⟩), ((funcC (bodyK K w 106) (rce79 K w L τ)), ⟨137, 11, 137, 46⟩), ((funcC (bodyK K w 135) (rce0 K w L τ)), ⟨187, 11, 187, 88⟩), (callerC, ⟨0, 0, 0, 0⟩)]
noncomputable def rc_v90 (K : Params → KT) (w : World) (L : Lt) : FnC := ⟨rcx90 K w L, 702, fun τ => .ret (.int (L.v 1) (τ 1501)), 703, rcc71 K w L, fun _ => []⟩
noncomputable def rc_v90_U_h (K : Params → KT) (w : World) (L : Lt) (c : Cls L 1 65 90 65) : List (Nat × Act) := [(23, S), (20, .bi (cLeT c 65 rfl)), (16, S), (13, .bi (cGeT c 90 rfl)), (4, .bi (cSub c 65 rfl))]
theorem rc_v90_U_t (b : Pk) (L : Lt) (c : Cls L 1 65 90 65) : FnT (b.V z0.1) (rc_v90 z0.1 b.w L) 40 (rc_v90_U_h z0.1 b.w L c) ⟨none, [(1497, .cnt)]⟩ := by intro h₁ R p i τ υ; kernel_rfl
theorem rc_v90_U_ok (b : Pk) (O : (b.V z0.1).Ok) (L : Lt) (c : Cls L 1 65 90 65) : (rc_v90 z0.1 b.w L).Ok (b.V z0.1) := okFn O (rc_v90_U_t b L c) (by kernel_rfl) (by kernel_rfl)
noncomputable def rc_v90_Lo_h (K : Params → KT) (w : World) (L : Lt) (c : Cls L 1 97 122 71) : List (Nat × Act) := [(40, S), (37, .bi (cLeT c 65 rfl)), (33, S), (30, .bi (cGeF c 90 rfl)), (23, S), (20, .bi (cLeT c 97 rfl)), (16, S), (13, .bi (cGeT c 122 rfl)), (4, .bi (cSub c 71 rfl))]
theorem rc_v90_Lo_t (b : Pk) (L : Lt) (c : Cls L 1 97 122 71) : FnT (b.V z0.1) (rc_v90 z0.1 b.w L) 57 (rc_v90_Lo_h z0.1 b.w L c) ⟨none, [(1495, .cnt)]⟩ := by intro h₁ R p i τ υ; kernel_rfl
theorem rc_v90_Lo_ok (b : Pk) (O : (b.V z0.1).Ok) (L : Lt) (c : Cls L 1 97 122 71) : (rc_v90 z0.1 b.w L).Ok (b.V z0.1) := okFn O (rc_v90_Lo_t b L c) (by kernel_rfl) (by kernel_rfl)
theorem rc_v90_ok (b : Pk) (O : (b.V z0.1).Ok) (L : Lt) (hL : LtOk L 2) (hB : Bnd L) : (rc_v90 z0.1 b.w L).Ok (b.V z0.1) := by
  have z := hB.v1
  rcases cls_of hL (r := 1) rfl with ⟨_, c⟩ | ⟨e, _, c⟩ | ⟨e, _, c⟩ | ⟨e, c⟩ | ⟨e, c⟩
  · exact rc_v90_U_ok b O L c
  · exact rc_v90_Lo_ok b O L c
  · omega
  · omega
  · omega
noncomputable def rcx92 (K : Params → KT) (w : World) (L : Lt) (τ : Nat → Nat) : PySem.Ctx := ctxC (.call (.ref 90) ⟨[.int (bv L 1) (τ 1521)], []⟩) [((rck78 K w L τ), ⟨98, 18, 98, 37⟩), ((funcC (bodyK K w 98) (rce77 K w L τ)), ⟨84, 19, 84, 29⟩), ((funcC (bodyK K w 106) (rce79 K w L τ)), ⟨137, 11, 137, 46⟩), ((funcC (bodyK K w 135) (rce0 K w L τ)), ⟨187, 11, 187, 88⟩), (callerC, ⟨0, 0, 0, 0⟩)]
noncomputable def rc_v92 (K : Params → KT) (w : World) (L : Lt) : FnC := ⟨rcx92 K w L, 703, fun τ => .ret (.int (L.v 1) (τ 1530)), 704, rcc71 K w L, fun _ => []⟩
noncomputable def rc_v92_U_h (K : Params → KT) (w : World) (L : Lt) (c : Cls L 1 65 90 65) : List (Nat × Act) := [(23, S), (20, .bi (cLeT c 65 rfl)), (16, S), (13, .bi (cGeT c 90 rfl)), (4, .bi (cSub c 65 rfl))]
theorem rc_v92_U_t (b : Pk) (L : Lt) (c : Cls L 1 65 90 65) : FnT (b.V z0.1) (rc_v92 z0.1 b.w L) 40 (rc_v92_U_h z0.1 b.w L c) ⟨none, [(1526, .cnt)]⟩ := by intro h₁ R p i τ υ; kernel_rfl
theorem rc_v92_U_ok (b : Pk) (O : (b.V z0.1).Ok) (L : Lt) (c : Cls L 1 65 90 65) : (rc_v92 z0.1 b.w L).Ok (b.V z0.1) := okFn O (rc_v92_U_t b L c) (by kernel_rfl) (by kernel_rfl)
noncomputable def rc_v92_Lo_h (K : Params → KT) (w : World) (L : Lt) (c : Cls L 1 97 122 71) : List (Nat × Act) := [(40, S), (37, .bi (cLeT c 65 rfl)), (33, S), (30, .bi (cGeF c 90 rfl)), (23, S), (20, .bi (cLeT c 97 rfl)), (16, S), (13, .bi (cGeT c 122 rfl)), (4, .bi (cSub c 71 rfl))]
theorem rc_v92_Lo_t (b : Pk) (L : Lt) (c : Cls L 1 97 122 71) : FnT (b.V z0.1) (rc_v92 z0.1 b.w L) 57 (rc_v92_Lo_h z0.1 b.w L c) ⟨none, [(1524, .cnt)]⟩ := by intro h₁ R p i τ υ; kernel_rfl
theorem rc_v92_Lo_ok (b : Pk) (O : (b.V z0.1).Ok) (L : Lt) (c : Cls L 1 97 122 71) : (rc_v92 z0.1 b.w L).Ok (b.V z0.1) := okFn O (rc_v92_Lo_t b L c) (by kernel_rfl) (by kernel_rfl)
theorem rc_v92_ok (b : Pk) (O : (b.V z0.1).Ok) (L : Lt) (hL : LtOk L 2) (hB : Bnd L) : (rc_v92 z0.1 b.w L).Ok (b.V z0.1) := by
  have z := hB.v1
  rcases cls_of hL (r := 1) rfl with ⟨_, c⟩ | ⟨e, _, c⟩ | ⟨e, _, c⟩ | ⟨e, c⟩ | ⟨e, c⟩
  · exact rc_v92_U_ok b O L c
  · exact rc_v92_Lo_ok b O L c
  · omega
  · omega
  · omega
noncomputable def rcx94 (K : Params → KT) (w : World) (L : Lt) (τ : Nat → Nat) : PySem.Ctx := ctxC (.call (.ref 90) ⟨[.int (bv L 1) (τ 1551)], []⟩) [((rck78 K w L τ), ⟨98, 18, 98, 37⟩), ((funcC (bodyK K w 98) (rce77 K w L τ)), ⟨84, 19, 84, 29⟩), ((funcC (bodyK K w 106) (rce79 K w L τ)), ⟨137, 11, 137, 46⟩), ((funcC (bodyK K w 135) (rce0 K w L τ)), ⟨187, 11, 187, 88⟩), (callerC, ⟨0, 0, 0, 0⟩)]
noncomputable def rc_v94 (K : Params → KT) (w : World) (L : Lt) : FnC := ⟨rcx94 K w L, 704, fun τ => .ret (.int (L.v 1) (τ 1560)), 705, rcc71 K w L, fun _ => []⟩
noncomputable def rc_v94_U_h (K : Params → KT) (w : World) (L : Lt) (c : Cls L 1 65 90 65) : List (Nat × Act) := [(23, S), (20, .bi (cLeT c 65 rfl)), (16, S), (13, .bi (cGeT c 90 rfl)), (4, .bi (cSub c 65 rfl))]
theorem rc_v94_U_t (b : Pk) (L : Lt) (c : Cls L 1 65 90 65) : FnT (b.V z0.1) (rc_v94 z0.1 b.w L) 40 (rc_v94_U_h z0.1 b.w L c) ⟨none, [(1556, .cnt)]⟩ := by intro h₁ R p i τ υ; kernel_rfl
theorem rc_v94_U_ok (b : Pk) (O : (b.V z0.1).Ok) (L : Lt) (c : Cls L 1 65 90 65) : (rc_v94 z0.1 b.w L).Ok (b.V z0.1) := okFn O (rc_v94_U_t b L c) (by kernel_rfl) (by kernel_rfl)
noncomputable def rc_v94_Lo_h (K : Params → KT) (w : World) (L : Lt) (c : Cls L 1 97 122 71) : List (Nat × Act) := [(40, S), (37, .bi (cLeT c 65 rfl)), (33, S), (30, .bi (cGeF c 90 rfl)), (23, S), (20, .bi (cLeT c 97 rfl)), (16, S), (13, .bi (cGeT c 122 rfl)), (4, .bi (cSub c 71 rfl))]
theorem rc_v94_Lo_t (b : Pk) (L : Lt) (c : Cls L 1 97 122 71) : FnT (b.V z0.1) (rc_v94 z0.1 b.w L) 57 (rc_v94_Lo_h z0.1 b.w L c) ⟨none, [(1554, .cnt)]⟩ := by intro h₁ R p i τ υ; kernel_rfl
theorem rc_v94_Lo_ok (b : Pk) (O : (b.V z0.1).Ok) (L : Lt) (c : Cls L 1 97 122 71) : (rc_v94 z0.1 b.w L).Ok (b.V z0.1) := okFn O (rc_v94_Lo_t b L c) (by kernel_rfl) (by kernel_rfl)
theorem rc_v94_ok (b : Pk) (O : (b.V z0.1).Ok) (L : Lt) (hL : LtOk L 2) (hB : Bnd L) : (rc_v94 z0.1 b.w L).Ok (b.V z0.1) := by
  have z := hB.v1
  rcases cls_of hL (r := 1) rfl with ⟨_, c⟩ | ⟨e, _, c⟩ | ⟨e, _, c⟩ | ⟨e, c⟩ | ⟨e, c⟩
  · exact rc_v94_U_ok b O L c
  · exact rc_v94_Lo_ok b O L c
  · omega
  · omega
  · omega
noncomputable def rc_top_h (K : Params → KT) (w : World) (L : Lt) (hL : LtOk L 2) (hH : HdOk L 2) (vs : List Value) (h63 : vs.length ≤ 63) : List (Nat × Act) := [(4636, .repl (rSlc vs h63)), (4629, .fn (rc_sum K w L vs) ⟨none, [(361, .cnt)]⟩), (4591, .bi (bMod L.h 5 2 (by decide) hH.m)), (4573, S), (4508, .bi (bDiv L.h 5 (L.h / 5) (by decide) (by decide) rfl)), (4501, .bi (bMod (L.h / 5) 16 (L.h / 5 % 16) (by decide) rfl)), (4495, .bi (bAdd 3 (L.h / 5 % 16) (L.v 0) hH.v0)), (4459, S), (4448, .ctr (rc_vals K w L) ⟨none, [(369, .un 4629), (363, .tau 4629), (361, .cnt)]⟩), (4431, S), (4421, .comp .list), (4395, .bi (biGet hL 0 rfl)), (4359, .bi (biGet hL 1 rfl)), (4231, S), (4189, S), (4150, S), (4139, .ctr (rc_lm17_0 K w L) ⟨some 4448, [(403, .un 4448)]⟩), (4106, S), (4070, S), (4031, S), (4020, .ctr (rc_lm36_0 K w L) ⟨some 4139, [(450, .un 4139)]⟩), (3961, S), (3953, S), (3947, S), (3940, S), (3932, S), (3926, S), (3919, S), (3911, S), (3905, S), (3897, S), (3889, S), (3883, S), (3876, S), (3870, Q), (3862, S), (3856, Q), (3853, S), (3847, S), (3840, S), (3832, S), (3826, S), (3809, S), (3801, .ctr (rc_row50_0 K w L) ⟨some 4020, [(723, .un 4020)]⟩), (3791, S), (3781, .comp .list), (3755, .bi (biGet hL 0 rfl)), (3719, .bi (biGet hL 0 rfl)), (3683, .bi (biGet hL 0 rfl)), (3647, .bi (biGet hL 1 rfl)), (3611, .bi (biGet hL 0 rfl)), (3575, .bi (biGet hL 1 rfl)), (3539, .bi (biGet hL 1 rfl)), (3503, .bi (biGet hL 1 rfl)), (3395, .ctr (rc_grow58_0 K w L) ⟨some 3801, [(739, .un 3801)]⟩), (3332, S), (3329, .bi (biNe hL [1, 1, 1, 0, 0, 0, 1, 0, 1, 1] [1, 1, 1, 0, 0, 0, 1, 0, 1, 1] rfl rfl)), (3229, S), (3226, .bi (biIter hL [0, 0, 0, 1, 0, 1, 1, 1] rfl)), (3219, .comp .ascii), (2888, S), (2866, .repl (rCode hL 686 687 0 rfl)), (2850, .repl (rCode hL 686 687 0 rfl)), (2834, .repl (rCode hL 686 687 0 rfl)), (2818, .repl (rCode hL 686 687 1 rfl)), (2802, .repl (rCode hL 686 687 0 rfl)), (2786, .repl (rCode hL 686 687 1 rfl)), (2770, .repl (rCode hL 686 687 1 rfl)), (2754, .repl (rCode hL 686 687 1 rfl)), (2420, S), (2390, S), (2387, .bi (aPad hL 0 rfl)), (2377, .fn (rc_v77 K w L) ⟨some 3395, [(1302, .un 3395)]⟩), (2363, S), (2360, .bi (aGe64 hL 0 rfl)), (2337, S), (2274, S), (2271, .bi (aPad hL 0 rfl)), (2261, .fn (rc_v82 K w L) ⟨some 3395, [(1380, .un 2377), (1375, .tau 2377), (1302, .un 3395)]⟩), (2247, S), (2244, .bi (aGe64 hL 0 rfl)), (2221, S), (2212, S), (2184, .bi (aShl2 hL 0 rfl)), (2175, .bi (aShr4 hL 0 rfl)), (2169, .bi (aOr0 hL 0 0 rfl rfl)), (2150, .bi (aAnd15 hL 0 rfl)), (2100, S), (2097, .bi (aPad hL 0 rfl)), (2087, .fn (rc_v84 K w L) ⟨some 3395, [(1399, .un 2261), (1394, .tau 2261), (1380, .un 2377), (1375, .tau 2377), (1302, .un 3395)]⟩), (2073, S), (2070, .bi (aGe64 hL 0 rfl)), (2047, S), (2038, S), (2029, S), (2001, .bi (aShl4 hL 0 rfl)), (1992, .bi (aShr2 hL 0 rfl)), (1986, .bi (aOr1 hL 0 0 rfl rfl)), (1967, .bi (aAnd3 hL 0 rfl)), (1917, S), (1914, .bi (aPad hL 1 rfl)), (1904, .fn (rc_v86 K w L) ⟨some 3395, [(1426, .un 2087), (1421, .tau 2087), (1399, .un 2261), (1394, .tau 2261), (1380, .un 2377), (1375, .tau 2377), (1302, .un 3395)]⟩), (1890, S), (1887, .bi (aGe64 hL 1 rfl)), (1864, S), (1855, S), (1846, S), (1818, .bi (aShl6 hL 0 rfl)), (1810, .bi (aOr2 hL 0 1 rfl rfl)), (1749, S), (1746, .bi (aPad hL 0 rfl)), (1736, .fn (rc_v88 K w L) ⟨some 3395, [(1456, .un 1904), (1449, .tau 1904), (1426, .un 2087), (1421, .tau 2087), (1399, .un 2261), (1394, .tau 2261), (1380, .un 2377), (1375, .tau 2377), (1302, .un 3395)]⟩), (1722, S), (1719, .bi (aGe64 hL 0 rfl)), (1696, S), (1633, S), (1630, .bi (aPad hL 1 rfl)), (1620, .fn (rc_v90 K w L) ⟨some 3395, [(1481, .un 1736), (1476, .tau 1736), (1456, .un 1904), (1449, .tau 1904), (1426, .un 2087), (1421, .tau 2087), (1399, .un 2261), (1394, .tau 2261), (1380, .un 2377), (1375, .tau 2377), (1302, .un 3395)]⟩), (1606, S), (1603, .bi (aGe64 hL 1 rfl)), (1580, S), (1571, S), (1543, .bi (aShl2 hL 0 rfl)), (1534, .bi (aShr4 hL 1 rfl)), (1528, .bi (aOr0 hL 0 1 rfl rfl)), (1509, .bi (aAnd15 hL 1 rfl)), (1459, S), (1456, .bi (aPad hL 1 rfl)), (1446, .fn (rc_v92 K w L) ⟨some 3395, [(1502, .un 1620), (1495, .tau 1620), (1481, .un 1736), (1476, .tau 1736), (1456, .un 1904), (1449, .tau 1904), (1426, .un 2087), (1421, .tau 2087), (1399, .un 2261), (1394, .tau 2261), (1380, .un 2377), (1375, .tau 2377), (1302, .un 3395)]⟩), (1432, S), (1429, .bi (aGe64 hL 1 rfl)), (1406, S), (1397, S), (1388, S), (1360, .bi (aShl4 hL 1 rfl)), (1351, .bi (aShr2 hL 1 rfl)), (1345, .bi (aOr1 hL 1 1 rfl rfl)), (1326, .bi (aAnd3 hL 1 rfl)), (1276, S), (1273, .bi (aPad hL 1 rfl)), (1263, .fn (rc_v94 K w L) ⟨some 3395, [(1531, .un 1446), (1524, .tau 1446), (1502, .un 1620), (1495, .tau 1620), (1481, .un 1736), (1476, .tau 1736), (1456, .un 1904), (1449, .tau 1904), (1426, .un 2087), (1421, .tau 2087), (1399, .un 2261), (1394, .tau 2261), (1380, .un 2377), (1375, .tau 2377), (1302, .un 3395)]⟩), (1249, S), (1246, .bi (aGe64 hL 1 rfl)), (1223, S), (1214, S), (1205, S), (1177, .bi (aShl6 hL 1 rfl)), (1169, .bi (aOr2 hL 1 1 rfl rfl)), (1109, S), (1100, S), (1078, S), (1056, .repl (rQ0 hL 707 708 0 0 rfl rfl)), (1040, .repl (rQ1 hL 707 708 0 0 rfl rfl)), (1024, .repl (rQ2 hL 707 708 0 1 rfl rfl)), (1008, .repl (rQ0 hL 707 708 0 1 rfl rfl)), (992, .repl (rQ1 hL 707 708 1 1 rfl rfl)), (976, .repl (rQ2 hL 707 708 1 1 rfl rfl)), (828, S), (754, S), (714, .bi (aAdd1 L 0)), (678, .bi (aMul1 L 0)), (670, .bi (aAdd2 L 0 0)), (634, .bi (aMul2 L 0 0)), (626, .bi (aAdd3 L 0 0 0)), (590, .bi (aMul3 L 0 0 0)), (582, .bi (aAdd4 L 0 0 0 1)), (537, .bi (aDiv0 hL 0 0 0 1 rfl rfl rfl rfl)), (528, .bi (aDiv1 L 0 0 0 1)), (521, .bi (aMod1 hL 0 0 0 1 rfl rfl rfl rfl)), (512, .bi (aMod2 hL 0 0 0 1 rfl rfl rfl rfl)), (432, S), (392, .bi (aAdd1 L 0)), (356, .bi (aMul1 L 0)), (348, .bi (aAdd2 L 0 1)), (312, .bi (aMul2 L 0 1)), (304, .bi (aAdd3 L 0 1 1)), (268, .bi (aMul3 L 0 1 1)), (260, .bi (aAdd4 L 0 1 1 1)), (215, .bi (aDiv0 hL 0 1 1 1 rfl rfl rfl rfl)), (206, .bi (aDiv1 L 0 1 1 1)), (199, .bi (aMod1 hL 0 1 1 1 rfl rfl rfl rfl)), (190, .bi (aMod2 hL 0 1 1 1 rfl rfl rfl rfl)), (139, S), (117, .repl (rQ0 hL 732 733 0 0 rfl rfl)), (101, .repl (rQ1 hL 732 733 0 0 rfl rfl)), (85, .repl (rQ2 hL 732 733 0 1 rfl rfl)), (69, .repl (rQ0 hL 732 733 0 1 rfl rfl)), (53, .repl (rQ1 hL 732 733 1 1 rfl rfl)), (37, .repl (rQ2 hL 732 733 1 1 rfl rfl)), (6, S), (3, .bi (bBytes [q0 L 0 0, q1 L 0 0, q2 L 0 1, q0 L 0 1, q1 L 1 1, q2 L 1 1]))]
theorem rc_top_t (b : Pk) (L : Lt) (hL : LtOk L 2) (hH : HdOk L 2) (h63 : b.vs.length ≤ 63) : TopT (b.V z0.1) G0 default 4671 137 (rc_top_h z0.1 b.w L hL hH b.vs h63) := by intro i τ υ; kernel_rfl
theorem rc_top (b : Pk) (O : (b.V z0.1).Ok) (L : Lt) (hL : LtOk L 2) (hH : HdOk L 2) (h63 : b.vs.length ≤ 63) (hB : Bnd L) (hsum : (rc_sum z0.1 b.w L b.vs).Ok (b.V z0.1)) (hvals : (rc_vals z0.1 b.w L).Ok (b.V z0.1)) (i : Nat) (hR : ∀ T m' i' ch h, RepK (b.V z0.1) h T m' ch → b.R₀ (.ok (.ret (.bool true))) ⟨h, ⟨[]⟩, b.d, b.t₀ + i', b.os⟩) : GoX (b.V z0.1) G0 default .base (dF G0.code) .nil 137 i [] :=
  top_go O (rc_top_t b L hL hH h63) (met (.fn hsum ⟨none, [(361, .cnt)]⟩ (.ctr hvals ⟨none, [(369, .un 4629), (363, .tau 4629), (361, .cnt)]⟩ (.ctr (rc_lm17_0_ok b O L hL hB) ⟨some 4448, [(403, .un 4448)]⟩ (.ctr (rc_lm36_0_ok b O L hL hB) ⟨some 4139, [(450, .un 4139)]⟩ (.ctr (rc_row50_0_ok b O L hL hB) ⟨some 4020, [(723, .un 4020)]⟩ (.ctr (rc_grow58_0_ok b O L hL hB) ⟨some 3801, [(739, .un 3801)]⟩ (.fn (rc_v77_ok b O L hL hB) ⟨some 3395, [(1302, .un 3395)]⟩ (.fn (rc_v82_ok b O L hL hB) ⟨some 3395, [(1380, .un 2377), (1375, .tau 2377), (1302, .un 3395)]⟩ (.fn (rc_v84_ok b O L hL hB) ⟨some 3395, [(1399, .un 2261), (1394, .tau 2261), (1380, .un 2377), (1375, .tau 2377), (1302, .un 3395)]⟩ (.fn (rc_v86_ok b O L hL hB) ⟨some 3395, [(1426, .un 2087), (1421, .tau 2087), (1399, .un 2261), (1394, .tau 2261), (1380, .un 2377), (1375, .tau 2377), (1302, .un 3395)]⟩ (.fn (rc_v88_ok b O L hL hB) ⟨some 3395, [(1456, .un 1904), (1449, .tau 1904), (1426, .un 2087), (1421, .tau 2087), (1399, .un 2261), (1394, .tau 2261), (1380, .un 2377), (1375, .tau 2377), (1302, .un 3395)]⟩ (.fn (rc_v90_ok b O L hL hB) ⟨some 3395, [(1481, .un 1736), (1476, .tau 1736), (1456, .un 1904), (1449, .tau 1904), (1426, .un 2087), (1421, .tau 2087), (1399, .un 2261), (1394, .tau 2261), (1380, .un 2377), (1375, .tau 2377), (1302, .un 3395)]⟩ (.fn (rc_v92_ok b O L hL hB) ⟨some 3395, [(1502, .un 1620), (1495, .tau 1620), (1481, .un 1736), (1476, .tau 1736), (1456, .un 1904), (1449, .tau 1904), (1426, .un 2087), (1421, .tau 2087), (1399, .un 2261), (1394, .tau 2261), (1380, .un 2377), (1375, .tau 2377), (1302, .un 3395)]⟩ (.fn (rc_v94_ok b O L hL hB) ⟨some 3395, [(1531, .un 1446), (1524, .tau 1446), (1502, .un 1620), (1495, .tau 1620), (1481, .un 1736), (1476, .tau 1736), (1456, .un 1904), (1449, .tau 1904), (1426, .un 2087), (1421, .tau 2087), (1399, .un 2261), (1394, .tau 2261), (1380, .un 2377), (1375, .tau 2377), (1302, .un 3395)]⟩ .nil)))))))))))))) (by kernel_rfl)) i hR

end Mine
end
section
open PySem PySem.W PySem.W.X PyProof.Rows
set_option maxRecDepth 100000
namespace Mine
noncomputable def rde0 (K : Params → KT) (w : World) (L : Lt) (τ : Nat → Nat) : Env := ⟨(fdK K w 135).scope, 137, 3, [(⟨⟨[98, 97, 115, 101]⟩⟩, 139), (⟨⟨[118, 97, 108, 117, 101, 115]⟩⟩, 138)], ⟨⟨[108, 97, 119, 46, 60, 108, 111, 99, 97, 108, 115, 62, 46]⟩⟩, some 135, (.ref 134), some 137, 0⟩
noncomputable def rdx1 (K : Params → KT) (w : World) (L : Lt) (τ : Nat → Nat) : PySem.Ctx := ctxC (.builtin "sum" ⟨[.ref 141], []⟩) [((funcC (bodyK K w 135) (rde0 K w L τ)), ⟨172, 11, 172, 27⟩), (callerC, ⟨0, 0, 0, 0⟩)]
noncomputable def rdc2 (K : Params → KT) (w : World) (L : Lt) (τ : Nat → Nat) : Ch := []
noncomputable def rd_sum (K : Params → KT) (w : World) (L : Lt) (vs : List Value) : FnC := ⟨rdx1 K w L, 142, fun τ => .ret (.int L.h (τ 368)), 146, rdc2 K w L, fun _ => [(141, ⟨.type "list", none, .seq (slc vs) 0, #[]⟩)]⟩
theorem rd_sum_ok (b : Pk) (L : Lt) (val : Nat → Int) (h63 : b.vs.length ≤ 63) (hv : ∀ i, i < b.vs.length → ∃ t, b.vs[i]? = some (.int (val i) t)) (hh : preSum val b.vs.length = L.h) : (rd_sum z0.1 b.w L b.vs).Ok (b.V z0.1) :=
  sum_ok (m := 142) (a := 141) (fun _ => rfl) ⟨rfl, rfl⟩ (fun z => ⟨fun _ => z, rfl⟩) (fun _ => by kernel_rfl) h63 hv hh
noncomputable def rdk3 (K : Params → KT) (w : World) (L : Lt) (τ : Nat → Nat) : Code := loopC (stmtAt (bodyK K w 135) [3]) (.ref 157) (rde0 K w L τ)
noncomputable def rdx4 (K : Params → KT) (w : World) (L : Lt) (τ : Nat → Nat) : PySem.Ctx := ctxC (rdk3 K w L τ) [((funcC (bodyK K w 135) (rde0 K w L τ)), ⟨175, 13, 175, 24⟩), (callerC, ⟨0, 0, 0, 0⟩)]
noncomputable def rdo5 (K : Params → KT) (w : World) (L : Lt) (τ : Nat → Nat) : Obj := ⟨(.type "frame"), none, (.dict ⟨[entS w ⟨⟨[115, 99, 114, 105, 112, 116]⟩⟩ (τ 361) (.ref 136), entS w ⟨⟨[104, 101, 97, 100]⟩⟩ (τ 369) (.int L.h (τ 368)), entS w ⟨⟨[107]⟩⟩ (τ 382) (.int 3 (τ 376)), entS w ⟨⟨[110]⟩⟩ (τ 383) (.int 2 (τ 377))]⟩ 4), ⟨[]⟩⟩
noncomputable def rdo6 (K : Params → KT) (w : World) (L : Lt) (τ : Nat → Nat) : Obj := ⟨(.type "cell"), none, (.cell (some (.ref 155))), ⟨[]⟩⟩
noncomputable def rdo7 (K : Params → KT) (w : World) (L : Lt) (τ : Nat → Nat) : Obj := ⟨(.type "cell"), none, (.cell none), ⟨[]⟩⟩
noncomputable def rdo8 (K : Params → KT) (w : World) (L : Lt) (τ : Nat → Nat) : Obj := ⟨(.type "list"), none, (.seq ⟨[(.int (L.v 0) (τ 389))]⟩ 0), ⟨[]⟩⟩
noncomputable def rdo9 (K : Params → KT) (w : World) (L : Lt) (τ : Nat → Nat) : Obj := ⟨(.type "range_iterator"), none, (.fields ⟨[(.int 1 0), (.int 2 0), (.int 1 0)]⟩), ⟨[]⟩⟩
noncomputable def rdl10 (K : Params → KT) (w : World) (L : Lt) (τ : Nat → Nat) : List (Addr × Obj) := [(137, rdo5 K w L τ), (138, rdo6 K w L τ), (139, rdo7 K w L τ), (155, rdo8 K w L τ), (157, rdo9 K w L τ)]
noncomputable def rdx11 (K : Params → KT) (w : World) (L : Lt) (τ : Nat → Nat) : PySem.Ctx := ctxC (.builtin "len" ⟨[.ref 136], []⟩) [((rdk3 K w L τ), ⟨176, 62, 176, 73⟩), ((funcC (bodyK K w 135) (rde0 K w L τ)), ⟨175, 13, 175, 24⟩), (callerC, ⟨0, 0, 0, 0⟩)]
noncomputable def rd_len11 (K : Params → KT) (w : World) (L : Lt) (vs : List Value) : FnC := ⟨rdx11 K w L, 158, fun τ => .ret (.int (Int.ofNat vs.toArray.size) (τ 399)), 158, rdc2 K w L, fun _ => []⟩
theorem rd_len11_ok (b : Pk) (O : (b.V z0.1).Ok) (L : Lt) (h63 : b.vs.length ≤ 63) : (rd_len11 z0.1 b.w L b.vs).Ok (b.V z0.1) :=
  len_ok (m := 158) (a := 136) O (fun _ => rfl) ⟨rfl, rfl⟩ (fun z => ⟨fun _ => z, rfl⟩) (fun _ => by kernel_rfl) h63
noncomputable def rd_len13 (K : Params → KT) (w : World) (L : Lt) (vs : List Value) : FnC := ⟨rdx11 K w L, 158, fun τ => .ret (.int (Int.ofNat vs.toArray.size) (τ 410)), 158, rdc2 K w L, fun _ => []⟩
theorem rd_len13_ok (b : Pk) (O : (b.V z0.1).Ok) (L : Lt) (h63 : b.vs.length ≤ 63) : (rd_len13 z0.1 b.w L b.vs).Ok (b.V z0.1) :=
  len_ok (m := 158) (a := 136) O (fun _ => rfl) ⟨rfl, rfl⟩ (fun z => ⟨fun _ => z, rfl⟩) (fun _ => by kernel_rfl) h63
noncomputable def rdo14 (K : Params → KT) (w : World) (L : Lt) (τ : Nat → Nat) : Obj := ⟨(.type "frame"), none, (.dict ⟨[entS w ⟨⟨[115, 99, 114, 105, 112, 116]⟩⟩ (τ 361) (.ref 136), entS w ⟨⟨[104, 101, 97, 100]⟩⟩ (τ 369) (.int L.h (τ 368)), entS w ⟨⟨[107]⟩⟩ (τ 382) (.int 3 (τ 376)), entS w ⟨⟨[110]⟩⟩ (τ 383) (.int 2 (τ 377)), entS w ⟨⟨[114]⟩⟩ (τ 393) (.int 2 (τ 403))]⟩ 5), ⟨[]⟩⟩
noncomputable def rdo15 (K : Params → KT) (w : World) (L : Lt) (τ : Nat → Nat) : Obj := ⟨(.type "list"), none, (.seq ⟨[(.int (L.v 0) (τ 389)), (.int (L.v 1) (τ 402)), (.int (L.v 2) (τ 413))]⟩ 2), ⟨[]⟩⟩
noncomputable def rdl16 (K : Params → KT) (w : World) (L : Lt) (τ : Nat → Nat) : List (Addr × Obj) := [(137, rdo14 K w L τ), (138, rdo6 K w L τ), (139, rdo7 K w L τ), (155, rdo15 K w L τ)]
noncomputable def rd_vals (K : Params → KT) (w : World) (L : Lt) : Ctr := ⟨rdx4 K w L, fun τ => dF (rdx4 K w L τ).code, rdl10 K w L, rdc2 K w L, 158, fun τ => .next, rdl16 K w L, rdc2 K w L, 160⟩
noncomputable def rd_vals_s0_h (K : Params → KT) (w : World) (L : Lt) (xs : Nat → Int) (ts : Nat → Nat) (rest : List Value) (h1 : L.v 0 + 1 + 0 = L.v 1) (h2 : L.v 1 + 1 + 0 = L.v 2) : List (Nat × Act) := [(133, S), (125, .bi (bAdd (L.v 0 + 1) 0 (L.v 1) h1)), (37, S), (29, .bi (bAdd (L.v 1 + 1) 0 (L.v 2) h2))]
theorem rd_vals_s0_t (b : Pk) (L : Lt) (xs : Nat → Int) (ts : Nat → Nat) (rest : List Value) (h1 : L.v 0 + 1 + 0 = L.v 1) (h2 : L.v 1 + 1 + 0 = L.v 2) : FinT ((b.on []).V z0.1) (rd_vals z0.1 b.w L) 209 (rd_vals_s0_h z0.1 b.w L xs ts rest h1 h2) ⟨none, [(413, .off 19), (403, .off 10), (402, .off 9), (393, .off 1)]⟩ := by intro R p i τ υ; kernel_rfl
theorem rd_vals_s0_ok (b : Pk) (L : Lt) (xs : Nat → Int) (ts : Nat → Nat) (rest : List Value) (h1 : L.v 0 + 1 + 0 = L.v 1) (h2 : L.v 1 + 1 + 0 = L.v 2) (O : ((b.on []).V z0.1).Ok) (h63 : List.length (α := Value) [] ≤ 63) : (rd_vals z0.1 b.w L).Ok ((b.on []).V z0.1) := okF O (rd_vals_s0_t b L xs ts rest h1 h2) (met .nil (by kernel_rfl))
noncomputable def rd_vals_s1_h (K : Params → KT) (w : World) (L : Lt) (xs : Nat → Int) (ts : Nat → Nat) (rest : List Value) (h1 : L.v 0 + 1 + 0 = L.v 1) (h2 : L.v 1 + 1 + 0 = L.v 2) : List (Nat × Act) := [(133, S), (125, .bi (bAdd (L.v 0 + 1) 0 (L.v 1) h1)), (37, S), (29, .bi (bAdd (L.v 1 + 1) 0 (L.v 2) h2))]
theorem rd_vals_s1_t (b : Pk) (L : Lt) (xs : Nat → Int) (ts : Nat → Nat) (rest : List Value) (h1 : L.v 0 + 1 + 0 = L.v 1) (h2 : L.v 1 + 1 + 0 = L.v 2) : FinT ((b.on [.int (xs 0) (ts 0)]).V z0.1) (rd_vals z0.1 b.w L) 209 (rd_vals_s1_h z0.1 b.w L xs ts rest h1 h2) ⟨none, [(413, .off 19), (403, .off 10), (402, .off 9), (393, .off 1)]⟩ := by intro R p i τ υ; kernel_rfl
theorem rd_vals_s1_ok (b : Pk) (L : Lt) (xs : Nat → Int) (ts : Nat → Nat) (rest : List Value) (h1 : L.v 0 + 1 + 0 = L.v 1) (h2 : L.v 1 + 1 + 0 = L.v 2) (O : ((b.on [.int (xs 0) (ts 0)]).V z0.1).Ok) (h63 : List.length (α := Value) [.int (xs 0) (ts 0)] ≤ 63) : (rd_vals z0.1 b.w L).Ok ((b.on [.int (xs 0) (ts 0)]).V z0.1) := okF O (rd_vals_s1_t b L xs ts rest h1 h2) (met .nil (by kernel_rfl))
noncomputable def rd_vals_s2_h (K : Params → KT) (w : World) (L : Lt) (xs : Nat → Int) (ts : Nat → Nat) (rest : List Value) (h1 : L.v 0 + 1 + (Int.fmod (xs 1) 15) = L.v 1) (h2 : L.v 1 + 1 + 0 = L.v 2) : List (Nat × Act) := [(151, S), (125, .bi (bAdd (L.v 0 + 1) (Int.fmod (xs 1) 15) (L.v 1) h1)), (37, S), (29, .bi (bAdd (L.v 1 + 1) 0 (L.v 2) h2))]
theorem rd_vals_s2_t (b : Pk) (L : Lt) (xs : Nat → Int) (ts : Nat → Nat) (rest : List Value) (h1 : L.v 0 + 1 + (Int.fmod (xs 1) 15) = L.v 1) (h2 : L.v 1 + 1 + 0 = L.v 2) : FinT ((b.on [.int (xs 0) (ts 0), .int (xs 1) (ts 1)]).V z0.1) (rd_vals z0.1 b.w L) 227 (rd_vals_s2_h z0.1 b.w L xs ts rest h1 h2) ⟨none, [(413, .off 20), (403, .off 11), (402, .off 10), (393, .off 1)]⟩ := by intro R p i τ υ; kernel_rfl
theorem rd_vals_s2_ok (b : Pk) (L : Lt) (xs : Nat → Int) (ts : Nat → Nat) (rest : List Value) (h1 : L.v 0 + 1 + (Int.fmod (xs 1) 15) = L.v 1) (h2 : L.v 1 + 1 + 0 = L.v 2) (O : ((b.on [.int (xs 0) (ts 0), .int (xs 1) (ts 1)]).V z0.1).Ok) (h63 : List.length (α := Value) [.int (xs 0) (ts 0), .int (xs 1) (ts 1)] ≤ 63) : (rd_vals z0.1 b.w L).Ok ((b.on [.int (xs 0) (ts 0), .int (xs 1) (ts 1)]).V z0.1) := okF O (rd_vals_s2_t b L xs ts rest h1 h2) (met .nil (by kernel_rfl))
noncomputable def rd_len17 (K : Params → KT) (w : World) (L : Lt) (vs : List Value) : FnC := ⟨rdx11 K w L, 158, fun τ => .ret (.int (Int.ofNat vs.toArray.size) (τ 399)), 158, rdc2 K w L, fun _ => []⟩
theorem rd_len17_ok (b : Pk) (O : (b.V z0.1).Ok) (L : Lt) (h63 : b.vs.length ≤ 63) : (rd_len17 z0.1 b.w L b.vs).Ok (b.V z0.1) :=
  len_ok (m := 158) (a := 136) O (fun _ => rfl) ⟨rfl, rfl⟩ (fun z => ⟨fun _ => z, rfl⟩) (fun _ => by kernel_rfl) h63
noncomputable def rd_len18 (K : Params → KT) (w : World) (L : Lt) (vs : List Value) : FnC := ⟨rdx11 K w L, 158, fun τ => .ret (.int (Int.ofNat vs.toArray.size) (τ 410)), 158, rdc2 K w L, fun _ => []⟩
theorem rd_len18_ok (b : Pk) (O : (b.V z0.1).Ok) (L : Lt) (h63 : b.vs.length ≤ 63) : (rd_len18 z0.1 b.w L b.vs).Ok (b.V z0.1) :=
  len_ok (m := 158) (a := 136) O (fun _ => rfl) ⟨rfl, rfl⟩ (fun z => ⟨fun _ => z, rfl⟩) (fun _ => by kernel_rfl) h63
noncomputable def rd_vals_s3_h (K : Params → KT) (w : World) (L : Lt) (xs : Nat → Int) (ts : Nat → Nat) (rest : List Value) (h1 : L.v 0 + 1 + (Int.fmod (xs 1) 15) = L.v 1) (h2 : L.v 1 + 1 + (Int.fmod (xs 2) 15) = L.v 2) : List (Nat × Act) := [(165, .fn (rd_len17 K w L (.int (xs 0) (ts 0) :: .int (xs 1) (ts 1) :: .int (xs 2) (ts 2) :: rest)) ⟨none, [(392, .cnt)]⟩), (162, S), (159, .bi (aLt 1 (.int (xs 0) (ts 0) :: .int (xs 1) (ts 1) :: .int (xs 2) (ts 2) :: rest) (by simp only [List.length_cons]; omega))), (135, .bi (bAdd (L.v 0 + 1) (Int.fmod (xs 1) 15) (L.v 1) h1)), (59, .fn (rd_len18 K w L (.int (xs 0) (ts 0) :: .int (xs 1) (ts 1) :: .int (xs 2) (ts 2) :: rest)) ⟨none, [(400, .un 165), (398, .tau 165), (392, .cnt)]⟩), (56, S), (53, .bi (aLt 2 (.int (xs 0) (ts 0) :: .int (xs 1) (ts 1) :: .int (xs 2) (ts 2) :: rest) (by simp only [List.length_cons]; omega))), (29, .bi (bAdd (L.v 1 + 1) (Int.fmod (xs 2) 15) (L.v 2) h2))]
theorem rd_vals_s3_t (b : Pk) (L : Lt) (xs : Nat → Int) (ts : Nat → Nat) (rest : List Value) (h1 : L.v 0 + 1 + (Int.fmod (xs 1) 15) = L.v 1) (h2 : L.v 1 + 1 + (Int.fmod (xs 2) 15) = L.v 2) : FinT ((b.on (.int (xs 0) (ts 0) :: .int (xs 1) (ts 1) :: .int (xs 2) (ts 2) :: rest)).V z0.1) (rd_vals z0.1 b.w L) 229 (rd_vals_s3_h z0.1 b.w L xs ts rest h1 h2) ⟨none, [(411, .un 59), (409, .tau 59), (400, .un 165), (398, .tau 165), (392, .cnt)]⟩ := by intro R p i τ υ; kernel_rfl
theorem rd_vals_s3_ok (b : Pk) (L : Lt) (xs : Nat → Int) (ts : Nat → Nat) (rest : List Value) (h1 : L.v 0 + 1 + (Int.fmod (xs 1) 15) = L.v 1) (h2 : L.v 1 + 1 + (Int.fmod (xs 2) 15) = L.v 2) (O : ((b.on (.int (xs 0) (ts 0) :: .int (xs 1) (ts 1) :: .int (xs 2) (ts 2) :: rest)).V z0.1).Ok) (h63 : List.length (α := Value) (.int (xs 0) (ts 0) :: .int (xs 1) (ts 1) :: .int (xs 2) (ts 2) :: rest) ≤ 63) : (rd_vals z0.1 b.w L).Ok ((b.on (.int (xs 0) (ts 0) :: .int (xs 1) (ts 1) :: .int (xs 2) (ts 2) :: rest)).V z0.1) := okF O (rd_vals_s3_t b L xs ts rest h1 h2) (met (.fn (rd_len17_ok _ O L h63) ⟨none, [(392, .cnt)]⟩ (.fn (rd_len18_ok _ O L h63) ⟨none, [(400, .un 165), (398, .tau 165), (392, .cnt)]⟩ .nil)) (by kernel_rfl))
noncomputable def rde19 (K : Params → KT) (w : World) (L : Lt) (τ : Nat → Nat) : Env := ⟨(fdK K w 130).scope, 166, 3, [(⟨⟨[119, 111, 114, 100]⟩⟩, 170), (⟨⟨[109]⟩⟩, 169), (⟨⟨[115, 105, 122, 101]⟩⟩, 168), (⟨⟨[107]⟩⟩, 167)], ⟨⟨[95, 108, 97, 119, 95, 108, 121, 110, 100, 111, 110, 46, 60, 108, 111, 99, 97, 108, 115, 62, 46]⟩⟩, some 130, (.ref 129), some 166, 0⟩
noncomputable def rdk20 (K : Params → KT) (w : World) (L : Lt) (τ : Nat → Nat) : Code := loopC (stmtAt (bodyK K w 130) [1, 0, 0]) (.ref 175) (rde19 K w L τ)
noncomputable def rdk21 (K : Params → KT) (w : World) (L : Lt) (τ : Nat → Nat) : Code := loopC (stmtAt (bodyK K w 130) [1]) (.ref 173) (rde19 K w L τ)
noncomputable def rdx22 (K : Params → KT) (w : World) (L : Lt) (τ : Nat → Nat) : PySem.Ctx := ctxC (rdk20 K w L τ) [((rdk21 K w L τ), ⟨166, 21, 166, 37⟩), ((funcC (bodyK K w 130) (rde19 K w L τ)), ⟨164, 16, 164, 31⟩), ((funcC (bodyK K w 135) (rde0 K w L τ)), ⟨180, 16, 180, 33⟩), (callerC, ⟨0, 0, 0, 0⟩)]
noncomputable def rdo23 (K : Params → KT) (w : World) (L : Lt) (τ : Nat → Nat) : Obj := ⟨(.type "frame"), none, (.dict ⟨[entS w ⟨⟨[115, 99, 114, 105, 112, 116]⟩⟩ (τ 361) (.ref 136), entS w ⟨⟨[104, 101, 97, 100]⟩⟩ (τ 369) (.int L.h (τ 368)), entS w ⟨⟨[107]⟩⟩ (τ 382) (.int 3 (τ 376)), entS w ⟨⟨[110]⟩⟩ (τ 383) (.int 2 (τ 377)), entS w ⟨⟨[114]⟩⟩ (τ 393) (.int 2 (τ 403)), entS w ⟨⟨[108, 101, 116, 116, 101, 114, 115]⟩⟩ (τ 423) (.str (rel L [0, 1, 2]) (τ 422)), entS w ⟨⟨[114, 111, 119]⟩⟩ (τ 424) (.ref 165)]⟩ 7), ⟨[]⟩⟩
noncomputable def rdo24 (K : Params → KT) (w : World) (L : Lt) (τ : Nat → Nat) : Obj := ⟨(.type "cell"), none, (.cell (some (.str ⟨⟨[65, 66, 67, 68, 69, 70, 71, 72, 73, 74, 75, 76, 77, 78, 79, 80, 81, 82, 83, 84, 85, 86, 87, 88, 89, 90, 97, 98, 99, 100, 101, 102, 103, 104, 105, 106, 107, 108, 109, 110, 111, 112, 113, 114, 115, 116, 117, 118, 119, 120, 121, 122, 48, 49, 50, 51, 52, 53, 54, 55, 56, 57, 43, 47]⟩⟩ (τ 414)))), ⟨[]⟩⟩
noncomputable def rdo25 (K : Params → KT) (w : World) (L : Lt) (τ : Nat → Nat) : Obj := ⟨(.type "list"), none, (.seq ⟨[]⟩ 0), ⟨[]⟩⟩
noncomputable def rdo26 (K : Params → KT) (w : World) (L : Lt) (τ : Nat → Nat) : Obj := ⟨(.type "frame"), none, (.dict ⟨[entS w ⟨⟨[110]⟩⟩ (τ 425) (.int 2 (τ 377)), entS w ⟨⟨[119, 111, 114, 100, 115]⟩⟩ (τ 426) (.ref 171)]⟩ 2), ⟨[]⟩⟩
noncomputable def rdo27 (K : Params → KT) (w : World) (L : Lt) (τ : Nat → Nat) : Obj := ⟨(.type "cell"), none, (.cell (some (.int 3 (τ 376)))), ⟨[]⟩⟩
noncomputable def rdo28 (K : Params → KT) (w : World) (L : Lt) (τ : Nat → Nat) : Obj := ⟨(.type "cell"), none, (.cell (some (.int 1 (τ 431)))), ⟨[]⟩⟩
noncomputable def rdo29 (K : Params → KT) (w : World) (L : Lt) (τ : Nat → Nat) : Obj := ⟨(.type "range_iterator"), none, (.fields ⟨[(.int 2 0), (.int 1 0), (.int 1 0)]⟩), ⟨[]⟩⟩
noncomputable def rdo30 (K : Params → KT) (w : World) (L : Lt) (τ : Nat → Nat) : Obj := ⟨(.type "range_iterator"), none, (.fields ⟨[(.int 0 0), (.int 3 0), (.int 1 0)]⟩), ⟨[]⟩⟩
noncomputable def rdl31 (K : Params → KT) (w : World) (L : Lt) (τ : Nat → Nat) : List (Addr × Obj) := [(137, rdo23 K w L τ), (138, rdo6 K w L τ), (139, rdo24 K w L τ), (155, rdo15 K w L τ), (165, rdo25 K w L τ), (166, rdo26 K w L τ), (167, rdo27 K w L τ), (168, rdo28 K w L τ), (169, rdo7 K w L τ), (170, rdo7 K w L τ), (171, rdo25 K w L τ), (173, rdo29 K w L τ), (175, rdo30 K w L τ)]
noncomputable def rdo32 (K : Params → KT) (w : World) (L : Lt) (τ : Nat → Nat) : Obj := ⟨(.type "cell"), none, (.cell (some (.int 2 (τ 463)))), ⟨[]⟩⟩
noncomputable def rdo33 (K : Params → KT) (w : World) (L : Lt) (τ : Nat → Nat) : Obj := ⟨(.type "cell"), none, (.cell (some (.ref 204))), ⟨[]⟩⟩
noncomputable def rdo34 (K : Params → KT) (w : World) (L : Lt) (τ : Nat → Nat) : Obj := ⟨(.type "list"), none, (.seq ⟨[(.ref 178), (.ref 191), (.ref 204)]⟩ 3), ⟨[]⟩⟩
noncomputable def rdo35 (K : Params → KT) (w : World) (L : Lt) (τ : Nat → Nat) : Obj := ⟨(.type "list"), none, (.seq ⟨[(.int 0 (τ 447))]⟩ 1), ⟨[]⟩⟩
noncomputable def rdo36 (K : Params → KT) (w : World) (L : Lt) (τ : Nat → Nat) : Obj := ⟨(.type "list"), none, (.seq ⟨[(.int 1 (τ 460))]⟩ 1), ⟨[]⟩⟩
noncomputable def rdo37 (K : Params → KT) (w : World) (L : Lt) (τ : Nat → Nat) : Obj := ⟨(.type "list"), none, (.seq ⟨[(.int 2 (τ 473))]⟩ 1), ⟨[]⟩⟩
noncomputable def rdl38 (K : Params → KT) (w : World) (L : Lt) (τ : Nat → Nat) : List (Addr × Obj) := [(137, rdo23 K w L τ), (138, rdo6 K w L τ), (139, rdo24 K w L τ), (155, rdo15 K w L τ), (165, rdo25 K w L τ), (166, rdo26 K w L τ), (167, rdo27 K w L τ), (168, rdo28 K w L τ), (169, rdo32 K w L τ), (170, rdo33 K w L τ), (171, rdo34 K w L τ), (173, rdo29 K w L τ), (178, rdo35 K w L τ), (191, rdo36 K w L τ), (204, rdo37 K w L τ)]
noncomputable def rd_lm19_0 (K : Params → KT) (w : World) (L : Lt) : Ctr := ⟨rdx22 K w L, fun τ => dF (rdx22 K w L τ).code, rdl31 K w L, rdc2 K w L, 176, fun τ => .next, rdl38 K w L, rdc2 K w L, 217⟩
noncomputable def rd_lm19_0_h (K : Params → KT) (w : World) (L : Lt) (hL : LtOk L 3) : List (Nat × Act) := [(719, S), (706, .comp .range), (588, S), (575, .comp .range), (551, S), (469, S), (456, .comp .range), (338, S), (325, .comp .range), (301, S), (219, S), (206, .comp .range), (88, S), (75, .comp .range), (51, S)]
theorem rd_lm19_0_t (b : Pk) (L : Lt) (hL : LtOk L 3) : FinT (b.V z0.1) (rd_lm19_0 z0.1 b.w L) 767 (rd_lm19_0_h z0.1 b.w L hL) ⟨none, [(437, .cnt)]⟩ := by intro R p i τ υ; kernel_rfl
theorem rd_lm19_0_ok (b : Pk) (O : (b.V z0.1).Ok) (L : Lt) (hL : LtOk L 3) (hB : Bnd L) : (rd_lm19_0 z0.1 b.w L).Ok (b.V z0.1) := okF O (rd_lm19_0_t b L hL) (met .nil (by kernel_rfl))
noncomputable def rdk39 (K : Params → KT) (w : World) (L : Lt) (τ : Nat → Nat) : Code := loopC (stmtAt (bodyK K w 130) [1, 0, 0]) (.ref 218) (rde19 K w L τ)
noncomputable def rdx40 (K : Params → KT) (w : World) (L : Lt) (τ : Nat → Nat) : PySem.Ctx := ctxC (rdk39 K w L τ) [((rdk21 K w L τ), ⟨166, 21, 166, 37⟩), ((funcC (bodyK K w 130) (rde19 K w L τ)), ⟨164, 16, 164, 31⟩), ((funcC (bodyK K w 135) (rde0 K w L τ)), ⟨180, 16, 180, 33⟩), (callerC, ⟨0, 0, 0, 0⟩)]
noncomputable def rdo41 (K : Params → KT) (w : World) (L : Lt) (τ : Nat → Nat) : Obj := ⟨(.type "cell"), none, (.cell (some (.int 2 (τ 476)))), ⟨[]⟩⟩
noncomputable def rdo42 (K : Params → KT) (w : World) (L : Lt) (τ : Nat → Nat) : Obj := ⟨(.type "range_iterator"), none, (.fields ⟨[(.int 3 0), (.int 0 0), (.int 1 0)]⟩), ⟨[]⟩⟩
noncomputable def rdo43 (K : Params → KT) (w : World) (L : Lt) (τ : Nat → Nat) : Obj := ⟨(.type "range_iterator"), none, (.fields ⟨[(.int 0 0), (.int 9 0), (.int 1 0)]⟩), ⟨[]⟩⟩
noncomputable def rdl44 (K : Params → KT) (w : World) (L : Lt) (τ : Nat → Nat) : List (Addr × Obj) := [(137, rdo23 K w L τ), (138, rdo6 K w L τ), (139, rdo24 K w L τ), (155, rdo15 K w L τ), (165, rdo25 K w L τ), (166, rdo26 K w L τ), (167, rdo27 K w L τ), (168, rdo41 K w L τ), (169, rdo32 K w L τ), (170, rdo33 K w L τ), (171, rdo34 K w L τ), (173, rdo42 K w L τ), (178, rdo35 K w L τ), (191, rdo36 K w L τ), (204, rdo37 K w L τ), (218, rdo43 K w L τ)]
noncomputable def rdo45 (K : Params → KT) (w : World) (L : Lt) (τ : Nat → Nat) : Obj := ⟨(.type "cell"), none, (.cell (some (.int 7 (τ 643)))), ⟨[]⟩⟩
noncomputable def rdo46 (K : Params → KT) (w : World) (L : Lt) (τ : Nat → Nat) : Obj := ⟨(.type "cell"), none, (.cell (some (.ref 347))), ⟨[]⟩⟩
noncomputable def rdo47 (K : Params → KT) (w : World) (L : Lt) (τ : Nat → Nat) : Obj := ⟨(.type "list"), none, (.seq ⟨[(.ref 178), (.ref 191), (.ref 204), (.ref 239), (.ref 257), (.ref 311)]⟩ 6), ⟨[]⟩⟩
noncomputable def rdo48 (K : Params → KT) (w : World) (L : Lt) (τ : Nat → Nat) : Obj := ⟨(.type "range_iterator"), none, (.fields ⟨[(.int 8 0), (.int 1 0), (.int 1 0)]⟩), ⟨[]⟩⟩
noncomputable def rdo49 (K : Params → KT) (w : World) (L : Lt) (τ : Nat → Nat) : Obj := ⟨(.type "list"), none, (.seq ⟨[(.int 0 (τ 515)), (.int 1 (τ 523))]⟩ 2), ⟨[]⟩⟩
noncomputable def rdo50 (K : Params → KT) (w : World) (L : Lt) (τ : Nat → Nat) : Obj := ⟨(.type "list"), none, (.seq ⟨[(.int 0 (τ 538)), (.int 2 (τ 546))]⟩ 2), ⟨[]⟩⟩
noncomputable def rdo51 (K : Params → KT) (w : World) (L : Lt) (τ : Nat → Nat) : Obj := ⟨(.type "list"), none, (.seq ⟨[(.int 1 (τ 607)), (.int 2 (τ 615))]⟩ 2), ⟨[]⟩⟩
noncomputable def rdl52 (K : Params → KT) (w : World) (L : Lt) (τ : Nat → Nat) : List (Addr × Obj) := [(137, rdo23 K w L τ), (138, rdo6 K w L τ), (139, rdo24 K w L τ), (155, rdo15 K w L τ), (165, rdo25 K w L τ), (166, rdo26 K w L τ), (167, rdo27 K w L τ), (168, rdo41 K w L τ), (169, rdo45 K w L τ), (170, rdo46 K w L τ), (171, rdo47 K w L τ), (173, rdo42 K w L τ), (178, rdo35 K w L τ), (191, rdo36 K w L τ), (204, rdo37 K w L τ), (218, rdo48 K w L τ), (239, rdo49 K w L τ), (257, rdo50 K w L τ), (311, rdo51 K w L τ)]
noncomputable def rdl53 (K : Params → KT) (w : World) (L : Lt) (τ : Nat → Nat) : List (Addr × Obj) := [(137, rdo23 K w L τ), (138, rdo6 K w L τ), (139, rdo24 K w L τ), (155, rdo15 K w L τ), (165, rdo25 K w L τ), (166, rdo26 K w L τ), (171, rdo47 K w L τ), (173, rdo42 K w L τ), (178, rdo35 K w L τ), (191, rdo36 K w L τ), (204, rdo37 K w L τ), (239, rdo49 K w L τ), (257, rdo50 K w L τ), (311, rdo51 K w L τ)]
noncomputable def rd_lm39_1 (K : Params → KT) (w : World) (L : Lt) : Ctr := ⟨rdx40 K w L, fun τ => dF (rdx40 K w L τ).code, rdl52 K w L, rdc2 K w L, 363, fun τ => .next, rdl53 K w L, rdc2 K w L, 383⟩
noncomputable def rd_lm39_1_h (K : Params → KT) (w : World) (L : Lt) (hL : LtOk L 3) : List (Nat × Act) := [(372, S), (359, .comp .range), (176, S), (163, .comp .range), (78, S), (72, Q), (71, Q), (27, S)]
theorem rd_lm39_1_t (b : Pk) (L : Lt) (hL : LtOk L 3) : FinT (b.V z0.1) (rd_lm39_1 z0.1 b.w L) 420 (rd_lm39_1_h z0.1 b.w L hL) ⟨none, [(666, .cnt)]⟩ := by intro R p i τ υ; kernel_rfl
theorem rd_lm39_1_ok (b : Pk) (O : (b.V z0.1).Ok) (L : Lt) (hL : LtOk L 3) (hB : Bnd L) : (rd_lm39_1 z0.1 b.w L).Ok (b.V z0.1) := okF O (rd_lm39_1_t b L hL) (met .nil (by kernel_rfl))
noncomputable def rd_lm39_0 (K : Params → KT) (w : World) (L : Lt) : Ctr := ⟨rdx40 K w L, fun τ => dF (rdx40 K w L τ).code, rdl44 K w L, rdc2 K w L, 219, fun τ => .next, rdl53 K w L, rdc2 K w L, 383⟩
noncomputable def rd_lm39_0_h (K : Params → KT) (w : World) (L : Lt) (hL : LtOk L 3) : List (Nat × Act) := [(3259, S), (3246, .comp .range), (3063, S), (3050, .comp .range), (2965, S), (2959, Q), (2958, Q), (2914, S), (2856, S), (2843, .comp .range), (2660, S), (2647, .comp .range), (2562, S), (2554, S), (2548, S), (2514, S), (2432, S), (2419, .comp .range), (2236, S), (2223, .comp .range), (2138, S), (2130, S), (2124, S), (2090, S), (2008, S), (1995, .comp .range), (1812, S), (1799, .comp .range), (1714, S), (1706, S), (1700, S), (1657, S), (1599, S), (1586, .comp .range), (1403, S), (1390, .comp .range), (1305, S), (1299, Q), (1298, Q), (1254, S), (1196, S), (1183, .comp .range), (1000, S), (987, .comp .range), (902, S), (894, S), (888, S), (854, S), (772, S), (759, .comp .range), (576, S), (563, .comp .range), (478, S), (470, S), (464, S), (421, S), (363, S), (350, .comp .range), (167, S), (154, .comp .range), (69, S), (61, S), (55, S), (12, S), (1, .meet)]
theorem rd_lm39_0_t (b : Pk) (L : Lt) (hL : LtOk L 3) : NextT (b.V z0.1) (rd_lm39_0 z0.1 b.w L) (rd_lm39_1 z0.1 b.w L) 3307 (rd_lm39_0_h z0.1 b.w L hL) ⟨none, [(482, .cnt)]⟩ := by intro R p i τ υ; kernel_rfl
theorem rd_lm39_0_ok (b : Pk) (O : (b.V z0.1).Ok) (L : Lt) (hL : LtOk L 3) (hB : Bnd L) : (rd_lm39_0 z0.1 b.w L).Ok (b.V z0.1) := okN O (rd_lm39_0_t b L hL) (rd_lm39_1_ok b O L hL hB) ⟨rfl, rfl, rfl, rfl⟩ (met .nil (by kernel_rfl))
noncomputable def rdk54 (K : Params → KT) (w : World) (L : Lt) (τ : Nat → Nat) : Code := loopC (stmtAt (bodyK K w 135) [7]) (.ref 389) (rde0 K w L τ)
noncomputable def rdx55 (K : Params → KT) (w : World) (L : Lt) (τ : Nat → Nat) : PySem.Ctx := ctxC (rdk54 K w L τ) [((funcC (bodyK K w 135) (rde0 K w L τ)), ⟨180, 16, 180, 33⟩), (callerC, ⟨0, 0, 0, 0⟩)]
noncomputable def rdo56 (K : Params → KT) (w : World) (L : Lt) (τ : Nat → Nat) : Obj := ⟨(.type "list"), none, (.seq ⟨[(.ref 178), (.ref 239), (.ref 257), (.ref 191), (.ref 311), (.ref 204)]⟩ 2), ⟨[]⟩⟩
noncomputable def rdo57 (K : Params → KT) (w : World) (L : Lt) (τ : Nat → Nat) : Obj := ⟨(.type "list_iterator"), none, (.fields ⟨[(.ref 386), (.int 0 0)]⟩), ⟨[]⟩⟩
noncomputable def rdl58 (K : Params → KT) (w : World) (L : Lt) (τ : Nat → Nat) : List (Addr × Obj) := [(137, rdo23 K w L τ), (138, rdo6 K w L τ), (139, rdo24 K w L τ), (155, rdo15 K w L τ), (165, rdo25 K w L τ), (178, rdo35 K w L τ), (191, rdo36 K w L τ), (204, rdo37 K w L τ), (239, rdo49 K w L τ), (257, rdo50 K w L τ), (311, rdo51 K w L τ), (386, rdo56 K w L τ), (389, rdo57 K w L τ)]
noncomputable def rdo59 (K : Params → KT) (w : World) (L : Lt) (τ : Nat → Nat) : Obj := ⟨(.type "frame"), none, (.dict ⟨[entS w ⟨⟨[115, 99, 114, 105, 112, 116]⟩⟩ (τ 361) (.ref 136), entS w ⟨⟨[104, 101, 97, 100]⟩⟩ (τ 369) (.int L.h (τ 368)), entS w ⟨⟨[107]⟩⟩ (τ 382) (.int 3 (τ 376)), entS w ⟨⟨[110]⟩⟩ (τ 383) (.int 2 (τ 377)), entS w ⟨⟨[114]⟩⟩ (τ 393) (.int 2 (τ 403)), entS w ⟨⟨[108, 101, 116, 116, 101, 114, 115]⟩⟩ (τ 423) (.str (rel L [0, 1, 2]) (τ 422)), entS w ⟨⟨[114, 111, 119]⟩⟩ (τ 424) (.ref 165), entS w ⟨⟨[119, 111, 114, 100]⟩⟩ (τ 689) (.ref 204)]⟩ 8), ⟨[]⟩⟩
noncomputable def rdo60 (K : Params → KT) (w : World) (L : Lt) (τ : Nat → Nat) : Obj := ⟨(.type "list"), none, (.seq ⟨[(.int (L.v 0) (τ 389)), (.int (L.v 0) (τ 389)), (.int (L.v 1) (τ 402)), (.int (L.v 0) (τ 389)), (.int (L.v 2) (τ 413)), (.int (L.v 1) (τ 402)), (.int (L.v 1) (τ 402)), (.int (L.v 2) (τ 413)), (.int (L.v 2) (τ 413))]⟩ 6), ⟨[]⟩⟩
noncomputable def rdl61 (K : Params → KT) (w : World) (L : Lt) (τ : Nat → Nat) : List (Addr × Obj) := [(137, rdo59 K w L τ), (139, rdo24 K w L τ), (165, rdo60 K w L τ)]
noncomputable def rd_row54_0 (K : Params → KT) (w : World) (L : Lt) : Ctr := ⟨rdx55 K w L, fun τ => dF (rdx55 K w L τ).code, rdl58 K w L, rdc2 K w L, 390, fun τ => .next, rdl61 K w L, rdc2 K w L, 422⟩
noncomputable def rd_row54_0_h (K : Params → KT) (w : World) (L : Lt) (hL : LtOk L 3) : List (Nat × Act) := [(836, S), (826, .comp .list), (715, S), (705, .comp .list), (555, S), (545, .comp .list), (395, S), (385, .comp .list), (274, S), (264, .comp .list), (114, S), (104, .comp .list)]
theorem rd_row54_0_t (b : Pk) (L : Lt) (hL : LtOk L 3) : FinT (b.V z0.1) (rd_row54_0 z0.1 b.w L) 862 (rd_row54_0_h z0.1 b.w L hL) ⟨none, [(689, .cnt)]⟩ := by intro R p i τ υ; kernel_rfl
theorem rd_row54_0_ok (b : Pk) (O : (b.V z0.1).Ok) (L : Lt) (hL : LtOk L 3) (hB : Bnd L) : (rd_row54_0 z0.1 b.w L).Ok (b.V z0.1) := okF O (rd_row54_0_t b L hL) (met .nil (by kernel_rfl))
noncomputable def rde62 (K : Params → KT) (w : World) (L : Lt) (τ : Nat → Nat) : Env := ⟨(fdK K w 125).scope, 427, 3, [(⟨⟨[98, 101, 104, 105, 110, 100]⟩⟩, 429), (⟨⟨[116, 101, 120, 116]⟩⟩, 428)], ⟨⟨[95, 108, 97, 119, 95, 103, 114, 111, 119, 110, 46, 60, 108, 111, 99, 97, 108, 115, 62, 46]⟩⟩, some 125, (.ref 124), some 427, 0⟩
noncomputable def rdk63 (K : Params → KT) (w : World) (L : Lt) (τ : Nat → Nat) : Code := loopC (stmtAt (bodyK K w 125) [1]) .none (rde62 K w L τ)
noncomputable def rdx64 (K : Params → KT) (w : World) (L : Lt) (τ : Nat → Nat) : PySem.Ctx := ctxC (rdk63 K w L τ) [((funcC (bodyK K w 125) (rde62 K w L τ)), ⟨155, 4, 160, 24⟩), ((funcC (bodyK K w 135) (rde0 K w L τ)), ⟨183, 11, 183, 33⟩), (callerC, ⟨0, 0, 0, 0⟩)]
noncomputable def rdo65 (K : Params → KT) (w : World) (L : Lt) (τ : Nat → Nat) : Obj := ⟨(.type "frame"), none, (.dict ⟨[entS w ⟨⟨[115, 99, 114, 105, 112, 116]⟩⟩ (τ 361) (.ref 136), entS w ⟨⟨[104, 101, 97, 100]⟩⟩ (τ 369) (.int L.h (τ 368)), entS w ⟨⟨[107]⟩⟩ (τ 382) (.int 3 (τ 376)), entS w ⟨⟨[110]⟩⟩ (τ 383) (.int 2 (τ 377)), entS w ⟨⟨[114]⟩⟩ (τ 393) (.int 2 (τ 403)), entS w ⟨⟨[108, 101, 116, 116, 101, 114, 115]⟩⟩ (τ 423) (.str (rel L [0, 1, 2]) (τ 422)), entS w ⟨⟨[114, 111, 119]⟩⟩ (τ 424) (.ref 165), entS w ⟨⟨[119, 111, 114, 100]⟩⟩ (τ 689) (.ref 204), entS w ⟨⟨[115, 105, 103, 110, 115]⟩⟩ (τ 730) (.str (rel L [0, 0, 1, 0, 2, 1, 1, 2, 2]) (τ 729))]⟩ 9), ⟨[]⟩⟩
noncomputable def rdo66 (K : Params → KT) (w : World) (L : Lt) (τ : Nat → Nat) : Obj := ⟨(.type "frame"), none, (.dict ⟨[entS w ⟨⟨[108, 101, 116, 116, 101, 114, 115]⟩⟩ (τ 731) (.str (rel L [0, 1, 2]) (τ 422)), entS w ⟨⟨[110]⟩⟩ (τ 732) (.int 2 (τ 377))]⟩ 2), ⟨[]⟩⟩
noncomputable def rdo67 (K : Params → KT) (w : World) (L : Lt) (τ : Nat → Nat) : Obj := ⟨(.type "cell"), none, (.cell (some (.str (rel L [2, 2]) (τ 736)))), ⟨[]⟩⟩
noncomputable def rdl68 (K : Params → KT) (w : World) (L : Lt) (τ : Nat → Nat) : List (Addr × Obj) := [(137, rdo65 K w L τ), (165, rdo60 K w L τ), (427, rdo66 K w L τ), (428, rdo67 K w L τ), (429, rdo7 K w L τ)]
noncomputable def rdo69 (K : Params → KT) (w : World) (L : Lt) (τ : Nat → Nat) : Obj := ⟨(.type "frame"), none, (.dict ⟨[entS w ⟨⟨[115, 99, 114, 105, 112, 116]⟩⟩ (τ 361) (.ref 136), entS w ⟨⟨[104, 101, 97, 100]⟩⟩ (τ 369) (.int L.h (τ 368)), entS w ⟨⟨[107]⟩⟩ (τ 382) (.int 3 (τ 376)), entS w ⟨⟨[110]⟩⟩ (τ 383) (.int 2 (τ 377)), entS w ⟨⟨[114]⟩⟩ (τ 393) (.int 2 (τ 403)), entS w ⟨⟨[108, 101, 116, 116, 101, 114, 115]⟩⟩ (τ 423) (.str (rel L [0, 1, 2]) (τ 422)), entS w ⟨⟨[114, 111, 119]⟩⟩ (τ 424) (.ref 165), entS w ⟨⟨[119, 111, 114, 100]⟩⟩ (τ 689) (.ref 204), entS w ⟨⟨[115, 105, 103, 110, 115]⟩⟩ (τ 730) (.str (rel L [0, 0, 1, 0, 2, 1, 1, 2, 2]) (τ 729))]⟩ 9), ⟨[(some (.ref 134)), (some (.ref 3)), none, (some .notImplemented), none, (some (.ref 135)), (some (.ref 0)), (some (.ref 139)), (some (.ref 138))]⟩⟩
noncomputable def rdo70 (K : Params → KT) (w : World) (L : Lt) (τ : Nat → Nat) : Obj := ⟨(.type "frame"), none, (.dict ⟨[entS w ⟨⟨[108, 101, 116, 116, 101, 114, 115]⟩⟩ (τ 731) (.str (rel L [0, 1, 2]) (τ 422)), entS w ⟨⟨[110]⟩⟩ (τ 732) (.int 2 (τ 377)), entS w ⟨⟨[102, 114, 101, 115, 104]⟩⟩ (τ 833) (.ref 530)]⟩ 3), ⟨[(some (.ref 124)), (some (.ref 3)), none, (some (.ref 137)), none, (some (.ref 125)), (some (.ref 0)), (some (.ref 429)), (some (.ref 428))]⟩⟩
noncomputable def rdo71 (K : Params → KT) (w : World) (L : Lt) (τ : Nat → Nat) : Obj := ⟨(.type "cell"), none, (.cell (some (.str (rel L [2, 2, 0, 0, 1]) (τ 1032)))), ⟨[]⟩⟩
noncomputable def rdo72 (K : Params → KT) (w : World) (L : Lt) (τ : Nat → Nat) : Obj := ⟨(.type "cell"), none, (.cell (some (.str (rel L [0]) (τ 946)))), ⟨[]⟩⟩
noncomputable def rdo73 (K : Params → KT) (w : World) (L : Lt) (τ : Nat → Nat) : Obj := ⟨(.type "code"), none, .fields ⟨[(.str ⟨⟨[99, 111, 111, 114, 100, 95, 114, 101, 112, 114]⟩⟩ (τ 767)), (.str ⟨⟨[115, 117, 102, 102, 105, 120, 101, 100, 95, 101, 114, 114, 46, 60, 108, 111, 99, 97, 108, 115, 62, 46, 99, 111, 111, 114, 100, 95, 114, 101, 112, 114]⟩⟩ (τ 768)), (.str ⟨⟨[47, 99, 108, 97, 105, 109, 47, 99, 117, 116, 46, 112, 121]⟩⟩ (τ 769)), (.int 21 0), (.int 2 0), (.int 0 0), (.int 0 0), (.int 19 0), (.ref 441), (.bool true), (.int 181 0), (.ref 442), .none, (.ref 443), (.ref 444), (.ref 445), (.int (τ 774 : Nat) 0), (.int 21 0), (.str ⟨⟨[47, 99, 108, 97, 105, 109, 47, 99, 117, 116, 46, 112, 121]⟩⟩ (τ 775))]⟩, ⟨[]⟩⟩
noncomputable def rdl74 (K : Params → KT) (w : World) (L : Lt) (τ : Nat → Nat) : List (Addr × Obj) := [(137, rdo69 K w L τ), (165, rdo60 K w L τ), (427, rdo70 K w L τ), (428, rdo71 K w L τ), (429, rdo72 K w L τ), (446, rdo73 K w L τ)]
noncomputable def rdc75 (K : Params → KT) (w : World) (L : Lt) (τ : Nat → Nat) : Ch := [(43, ⟨[(.int 21 0), (.int 4 0), (.ref 446)]⟩)]
noncomputable def rdo76 (K : Params → KT) (w : World) (L : Lt) (τ : Nat → Nat) : Obj := ⟨(.type "frame"), none, (.dict ⟨[entS w ⟨⟨[108, 101, 116, 116, 101, 114, 115]⟩⟩ (τ 731) (.str (rel L [0, 1, 2]) (τ 422)), entS w ⟨⟨[110]⟩⟩ (τ 732) (.int 2 (τ 377)), entS w ⟨⟨[102, 114, 101, 115, 104]⟩⟩ (τ 833) (.ref 659)]⟩ 3), ⟨[(some (.ref 124)), (some (.ref 3)), none, (some (.ref 137)), none, (some (.ref 125)), (some (.ref 0)), (some (.ref 429)), (some (.ref 428))]⟩⟩
noncomputable def rdo77 (K : Params → KT) (w : World) (L : Lt) (τ : Nat → Nat) : Obj := ⟨(.type "cell"), none, (.cell (some (.str (rel L [2, 2, 0, 0, 1, 0, 2, 1]) (τ 1306)))), ⟨[]⟩⟩
noncomputable def rdo78 (K : Params → KT) (w : World) (L : Lt) (τ : Nat → Nat) : Obj := ⟨(.type "cell"), none, (.cell (some (.str (rel L [2]) (τ 1233)))), ⟨[]⟩⟩
noncomputable def rdl79 (K : Params → KT) (w : World) (L : Lt) (τ : Nat → Nat) : List (Addr × Obj) := [(137, rdo69 K w L τ), (165, rdo60 K w L τ), (427, rdo76 K w L τ), (428, rdo77 K w L τ), (429, rdo78 K w L τ), (446, rdo73 K w L τ)]
noncomputable def rdl80 (K : Params → KT) (w : World) (L : Lt) (τ : Nat → Nat) : List (Addr × Obj) := [(137, rdo69 K w L τ), (165, rdo60 K w L τ)]
noncomputable def rd_grow62_2 (K : Params → KT) (w : World) (L : Lt) : Ctr := ⟨rdx64 K w L, fun τ => dF (rdx64 K w L τ).code, rdl79 K w L, rdc75 K w L, 694, fun τ => (.ret (.str (rel L [2, 2, 0, 0, 1, 0, 2, 1, 1, 2]) (τ 1507))), rdl80 K w L, rdc75 K w L, 805⟩
noncomputable def rd_grow62_2_h (K : Params → KT) (w : World) (L : Lt) (hL : LtOk L 3) : List (Nat × Act) := [(3739, S), (3684, S), (3681, .bi (biIter hL [0, 1, 2] rfl)), (3673, .comp .ascii), (3549, .bi (biIndex hL [2, 2, 0, 0, 1, 0, 2, 1] [1, 0] rfl rfl)), (3509, S), (3506, .bi (biIter hL [2, 2, 0, 0] rfl)), (3491, S), (3471, S), (3451, S), (3431, S), (3350, S), (3347, .bi (biEq hL [1, 0] [1, 0] rfl rfl)), (3218, .bi (biIndex hL [2, 2, 0, 0, 1, 0, 2, 1] [1, 1] rfl rfl)), (3145, S), (3142, .bi (biRepr hL [1, 1] rfl rfl)), (3138, H (.cnt 52)), (3093, H (.cnt 52)), (3047, S), (3037, H (.un 3093 5)), (2769, .bi (biIndex hL [2, 2, 0, 0, 1, 0, 2, 1] [1, 2] rfl rfl)), (2696, S), (2693, .bi (biRepr hL [1, 2] rfl rfl)), (2689, H (.un 3037 18)), (2644, H (.un 3037 18)), (2598, S), (2588, H (.un 2644 5)), (2403, S), (2349, S), (2294, S), (2291, .bi (biIter hL [0, 1, 2] rfl)), (2283, .comp .ascii), (2159, .bi (biIndex hL [2, 2, 0, 0, 1, 0, 2, 1, 1] [1, 0] rfl rfl)), (2119, S), (2116, .bi (biIter hL [2, 2, 0, 0] rfl)), (2101, S), (2081, S), (2061, S), (2041, S), (1960, S), (1957, .bi (biEq hL [1, 0] [1, 0] rfl rfl)), (1828, .bi (biIndex hL [2, 2, 0, 0, 1, 0, 2, 1, 1] [1, 1] rfl rfl)), (1788, S), (1785, .bi (biIter hL [2, 2, 0, 0, 1, 0, 2] rfl)), (1770, S), (1750, S), (1730, S), (1710, S), (1690, S), (1670, S), (1650, S), (1569, S), (1566, .bi (biEq hL [1, 1] [1, 1] rfl rfl)), (1437, .bi (biIndex hL [2, 2, 0, 0, 1, 0, 2, 1, 1] [1, 2] rfl rfl)), (1364, S), (1361, .bi (biRepr hL [1, 2] rfl rfl)), (1357, H (.un 2588 90)), (1312, H (.un 2588 90)), (1266, S), (1256, H (.un 1312 5)), (1071, S), (1017, S), (962, S), (959, .bi (biIter hL [0, 1, 2] rfl)), (951, .comp .ascii), (827, .bi (biIndex hL [2, 2, 0, 0, 1, 0, 2, 1, 1, 2] [2, 0] rfl rfl)), (787, S), (784, .bi (biIter hL [2] rfl)), (769, S), (688, S), (685, .bi (biEq hL [2, 0] [2, 0] rfl rfl)), (556, .bi (biIndex hL [2, 2, 0, 0, 1, 0, 2, 1, 1, 2] [2, 1] rfl rfl)), (516, S), (513, .bi (biIter hL [2, 2, 0, 0, 1, 0] rfl)), (498, S), (478, S), (458, S), (438, S), (418, S), (398, S), (317, S), (314, .bi (biEq hL [2, 1] [2, 1] rfl rfl)), (185, .bi (biIndex hL [2, 2, 0, 0, 1, 0, 2, 1, 1, 2] [2, 2] rfl rfl)), (145, S), (67, S), (64, .bi (biEq hL [2, 2] [2, 2] rfl rfl)), (18, S)]
theorem rd_grow62_2_t (b : Pk) (L : Lt) (hL : LtOk L 3) : FinT (b.V z0.1) (rd_grow62_2 z0.1 b.w L) 3758 (rd_grow62_2_h z0.1 b.w L hL) ⟨none, [(1503, .un 1256), (1497, .un 1312), (1492, .un 1357), (1401, .un 2588), (1395, .un 2644), (1390, .un 2689), (1371, .un 3037), (1365, .un 3093), (1360, .un 3138), (1307, .cnt)]⟩ := by intro R p i τ υ; kernel_rfl
theorem rd_grow62_2_ok (b : Pk) (O : (b.V z0.1).Ok) (L : Lt) (hL : LtOk L 3) (hB : Bnd L) : (rd_grow62_2 z0.1 b.w L).Ok (b.V z0.1) := okF O (rd_grow62_2_t b L hL) (met .nil (by kernel_rfl))
noncomputable def rd_grow62_1 (K : Params → KT) (w : World) (L : Lt) : Ctr := ⟨rdx64 K w L, fun τ => dF (rdx64 K w L τ).code, rdl74 K w L, rdc75 K w L, 571, fun τ => (.ret (.str (rel L [2, 2, 0, 0, 1, 0, 2, 1, 1, 2]) (τ 1507))), rdl80 K w L, rdc75 K w L, 805⟩
noncomputable def rd_grow62_1_h (K : Params → KT) (w : World) (L : Lt) (hL : LtOk L 3) : List (Nat × Act) := [(3834, S), (3779, S), (3776, .bi (biIter hL [0, 1, 2] rfl)), (3768, .comp .ascii), (3644, .bi (biIndex hL [2, 2, 0, 0, 1] [1, 0] rfl rfl)), (3571, S), (3568, .bi (biRepr hL [1, 0] rfl rfl)), (3564, H (.cnt 25)), (3519, H (.cnt 25)), (3473, S), (3463, H (.un 3519 5)), (3195, .bi (biIndex hL [2, 2, 0, 0, 1] [1, 1] rfl rfl)), (3122, S), (3119, .bi (biRepr hL [1, 1] rfl rfl)), (3115, H (.un 3463 18)), (3070, H (.un 3463 18)), (3024, S), (3014, H (.un 3070 5)), (2746, .bi (biIndex hL [2, 2, 0, 0, 1] [1, 2] rfl rfl)), (2673, S), (2670, .bi (biRepr hL [1, 2] rfl rfl)), (2666, H (.un 3014 18)), (2621, H (.un 3014 18)), (2575, S), (2565, H (.un 2621 5)), (2380, S), (2326, S), (2271, S), (2268, .bi (biIter hL [0, 1, 2] rfl)), (2260, .comp .ascii), (2136, .bi (biIndex hL [2, 2, 0, 0, 1, 0] [0, 0] rfl rfl)), (2096, S), (2093, .bi (biIter hL [2, 2] rfl)), (2078, S), (2058, S), (1977, S), (1974, .bi (biEq hL [0, 0] [0, 0] rfl rfl)), (1845, .bi (biIndex hL [2, 2, 0, 0, 1, 0] [0, 1] rfl rfl)), (1805, S), (1802, .bi (biIter hL [2, 2, 0] rfl)), (1787, S), (1767, S), (1747, S), (1666, S), (1663, .bi (biEq hL [0, 1] [0, 1] rfl rfl)), (1534, .bi (biIndex hL [2, 2, 0, 0, 1, 0] [0, 2] rfl rfl)), (1461, S), (1458, .bi (biRepr hL [0, 2] rfl rfl)), (1454, H (.un 2565 78)), (1409, H (.un 2565 78)), (1363, S), (1353, H (.un 1409 5)), (1168, S), (1114, S), (1059, S), (1056, .bi (biIter hL [0, 1, 2] rfl)), (1048, .comp .ascii), (924, .bi (biIndex hL [2, 2, 0, 0, 1, 0, 2] [2, 0] rfl rfl)), (884, S), (881, .bi (biIter hL [2] rfl)), (866, S), (785, S), (782, .bi (biEq hL [2, 0] [2, 0] rfl rfl)), (653, .bi (biIndex hL [2, 2, 0, 0, 1, 0, 2] [2, 1] rfl rfl)), (580, S), (577, .bi (biRepr hL [2, 1] rfl rfl)), (573, H (.un 1353 51)), (528, H (.un 1353 51)), (482, S), (472, H (.un 528 5)), (204, .bi (biIndex hL [2, 2, 0, 0, 1, 0, 2] [2, 2] rfl rfl)), (164, S), (86, S), (83, .bi (biEq hL [2, 2] [2, 2] rfl rfl)), (37, S), (1, .meet)]
theorem rd_grow62_1_t (b : Pk) (L : Lt) (hL : LtOk L 3) : NextT (b.V z0.1) (rd_grow62_1 z0.1 b.w L) (rd_grow62_2 z0.1 b.w L) 3853 (rd_grow62_1_h z0.1 b.w L hL) ⟨none, [(1283, .un 472), (1277, .un 528), (1272, .un 573), (1220, .un 1353), (1214, .un 1409), (1209, .un 1454), (1130, .un 2565), (1124, .un 2621), (1119, .un 2666), (1100, .un 3014), (1094, .un 3070), (1089, .un 3115), (1070, .un 3463), (1064, .un 3519), (1059, .un 3564), (1033, .cnt)]⟩ := by intro R p i τ υ; kernel_rfl
theorem rd_grow62_1_ok (b : Pk) (O : (b.V z0.1).Ok) (L : Lt) (hL : LtOk L 3) (hB : Bnd L) : (rd_grow62_1 z0.1 b.w L).Ok (b.V z0.1) := okN O (rd_grow62_1_t b L hL) (rd_grow62_2_ok b O L hL hB) ⟨rfl, rfl, rfl, rfl⟩ (met .nil (by kernel_rfl))
noncomputable def rd_grow62_0 (K : Params → KT) (w : World) (L : Lt) : Ctr := ⟨rdx64 K w L, fun τ => dF (rdx64 K w L τ).code, rdl68 K w L, rdc2 K w L, 430, fun τ => (.ret (.str (rel L [2, 2, 0, 0, 1, 0, 2, 1, 1, 2]) (τ 1507))), rdl80 K w L, rdc75 K w L, 805⟩
noncomputable def rd_grow62_0_h (K : Params → KT) (w : World) (L : Lt) (hL : LtOk L 3) : List (Nat × Act) := [(4172, S), (4117, S), (4114, .bi (biIter hL [0, 1, 2] rfl)), (4106, .comp .ascii), (3982, .bi (biIndex hL [2, 2] [2, 0] rfl rfl)), (3905, S), (3902, .bi (biRepr hL [2, 0] rfl rfl)), (3898, H (.cnt 25)), (3835, H (.cnt 25)), (3789, S), (3779, H (.un 3835 5)), (3511, .bi (biIndex hL [2, 2] [2, 1] rfl rfl)), (3438, S), (3435, .bi (biRepr hL [2, 1] rfl rfl)), (3431, H (.un 3779 18)), (3386, H (.un 3779 18)), (3340, S), (3330, H (.un 3386 5)), (3062, .bi (biIndex hL [2, 2] [2, 2] rfl rfl)), (3022, S), (2944, S), (2941, .bi (biEq hL [2, 2] [2, 2] rfl rfl)), (2895, S), (2841, S), (2786, S), (2783, .bi (biIter hL [0, 1, 2] rfl)), (2775, .comp .ascii), (2651, .bi (biIndex hL [2, 2, 0] [0, 0] rfl rfl)), (2578, S), (2575, .bi (biRepr hL [0, 0] rfl rfl)), (2571, H (.un 3330 48)), (2526, H (.un 3330 48)), (2480, S), (2470, H (.un 2526 5)), (2202, .bi (biIndex hL [2, 2, 0] [0, 1] rfl rfl)), (2129, S), (2126, .bi (biRepr hL [0, 1] rfl rfl)), (2122, H (.un 2470 18)), (2077, H (.un 2470 18)), (2031, S), (2021, H (.un 2077 5)), (1753, .bi (biIndex hL [2, 2, 0] [0, 2] rfl rfl)), (1680, S), (1677, .bi (biRepr hL [0, 2] rfl rfl)), (1673, H (.un 2021 18)), (1628, H (.un 2021 18)), (1582, S), (1572, H (.un 1628 5)), (1387, S), (1333, S), (1278, S), (1275, .bi (biIter hL [0, 1, 2] rfl)), (1267, .comp .ascii), (1143, .bi (biIndex hL [2, 2, 0, 0] [0, 0] rfl rfl)), (1103, S), (1100, .bi (biIter hL [2, 2] rfl)), (1085, S), (1065, S), (984, S), (981, .bi (biEq hL [0, 0] [0, 0] rfl rfl)), (852, .bi (biIndex hL [2, 2, 0, 0] [0, 1] rfl rfl)), (779, S), (776, .bi (biRepr hL [0, 1] rfl rfl)), (772, H (.un 1572 53)), (727, H (.un 1572 53)), (681, S), (671, H (.un 727 5)), (403, .bi (biIndex hL [2, 2, 0, 0] [0, 2] rfl rfl)), (330, S), (327, .bi (biRepr hL [0, 2] rfl rfl)), (323, H (.un 671 18)), (278, H (.un 671 18)), (232, S), (222, H (.un 278 5)), (37, S), (1, .meet)]
theorem rd_grow62_0_t (b : Pk) (L : Lt) (hL : LtOk L 3) : NextT (b.V z0.1) (rd_grow62_0 z0.1 b.w L) (rd_grow62_1 z0.1 b.w L) 4191 (rd_grow62_0_h z0.1 b.w L hL) ⟨none, [(1028, .un 222), (1022, .un 278), (1017, .un 323), (998, .un 671), (992, .un 727), (987, .un 772), (933, .un 1572), (927, .un 1628), (922, .un 1673), (903, .un 2021), (897, .un 2077), (892, .un 2122), (873, .un 2470), (867, .un 2526), (862, .un 2571), (813, .un 3330), (807, .un 3386), (802, .un 3431), (783, .un 3779), (777, .un 3835), (763, .un 3898), (737, .cnt)]⟩ := by intro R p i τ υ; kernel_rfl
theorem rd_grow62_0_ok (b : Pk) (O : (b.V z0.1).Ok) (L : Lt) (hL : LtOk L 3) (hB : Bnd L) : (rd_grow62_0 z0.1 b.w L).Ok (b.V z0.1) := okN O (rd_grow62_0_t b L hL) (rd_grow62_1_ok b O L hL hB) ⟨rfl, rfl, rfl, rfl⟩ (met .nil (by kernel_rfl))
noncomputable def rde81 (K : Params → KT) (w : World) (L : Lt) (τ : Nat → Nat) : Env := ⟨(fdK K w 98).scope, 818, 3, [], ⟨⟨[97, 50, 98, 95, 98, 97, 115, 101, 54, 52, 46, 60, 108, 111, 99, 97, 108, 115, 62, 46]⟩⟩, some 98, (.ref 97), some 818, 0⟩
noncomputable def rdk82 (K : Params → KT) (w : World) (L : Lt) (τ : Nat → Nat) : Code := loopC (stmtAt (bodyK K w 98) [7]) (.ref 822) (rde81 K w L τ)
noncomputable def rde83 (K : Params → KT) (w : World) (L : Lt) (τ : Nat → Nat) : Env := ⟨(fdK K w 106).scope, 816, 3, [], ⟨⟨[98, 54, 52, 100, 101, 99, 111, 100, 101, 46, 60, 108, 111, 99, 97, 108, 115, 62, 46]⟩⟩, some 106, (.ref 105), some 816, 0⟩
noncomputable def rdx84 (K : Params → KT) (w : World) (L : Lt) (τ : Nat → Nat) : PySem.Ctx := ctxC (.call (.ref 90) ⟨[.int (bv L 0) (τ 1672)], []⟩) [((rdk82 K w L τ), ⟨98, 18, 98, 37⟩), ((funcC (bodyK K w 98) (rde81 K w L τ)), ⟨84, 19, 84, 29⟩), ((funcC (bodyK K w 106) (rde83 K w L τ)), ⟨137, 11, 137, 46⟩), ((funcC (bodyK K w 135) (rde0 K w L τ)), ⟨187, 11, 187, 88⟩), (callerC, ⟨0, 0, 0, 0⟩)]
noncomputable def rd_v81 (K : Params → KT) (w : World) (L : Lt) : FnC := ⟨rdx84 K w L, 823, fun τ => .ret (.int (L.v 0) (τ 1679)), 824, rdc75 K w L, fun _ => []⟩
noncomputable def rd_v81_U_h (K : Params → KT) (w : World) (L : Lt) (c : Cls L 0 65 90 65) : List (Nat × Act) := [(23, S), (20, .bi (cLeT c 65 rfl)), (16, S), (13, .bi (cGeT c 90 rfl)), (4, .bi (cSub c 65 rfl))]
theorem rd_v81_U_t (b : Pk) (L : Lt) (c : Cls L 0 65 90 65) : FnT (b.V z0.1) (rd_v81 z0.1 b.w L) 40 (rd_v81_U_h z0.1 b.w L c) ⟨none, [(1675, .cnt)]⟩ := by intro h₁ R p i τ υ; kernel_rfl
theorem rd_v81_U_ok (b : Pk) (O : (b.V z0.1).Ok) (L : Lt) (c : Cls L 0 65 90 65) : (rd_v81 z0.1 b.w L).Ok (b.V z0.1) := okFn O (rd_v81_U_t b L c) (by kernel_rfl) (by kernel_rfl)
theorem rd_v81_ok (b : Pk) (O : (b.V z0.1).Ok) (L : Lt) (hL : LtOk L 3) (hB : Bnd L) : (rd_v81 z0.1 b.w L).Ok (b.V z0.1) := by
  have z := hB.v0
  rcases cls_of hL (r := 0) rfl with ⟨_, c⟩ | ⟨e, _, c⟩ | ⟨e, _, c⟩ | ⟨e, c⟩ | ⟨e, c⟩
  · exact rd_v81_U_ok b O L c
  · omega
  · omega
  · omega
  · omega
noncomputable def rdx86 (K : Params → KT) (w : World) (L : Lt) (τ : Nat → Nat) : PySem.Ctx := ctxC (.call (.ref 90) ⟨[.int (bv L 0) (τ 1691)], []⟩) [((rdk82 K w L τ), ⟨98, 18, 98, 37⟩), ((funcC (bodyK K w 98) (rde81 K w L τ)), ⟨84, 19, 84, 29⟩), ((funcC (bodyK K w 106) (rde83 K w L τ)), ⟨137, 11, 137, 46⟩), ((funcC (bodyK K w 135) (rde0 K w L τ)), ⟨187, 11, 187, 88⟩), (callerC, ⟨0, 0, 0, 0⟩)]
noncomputable def rd_v86 (K : Params → KT) (w : World) (L : Lt) : FnC := ⟨rdx86 K w L, 824, fun τ => .ret (.int (L.v 0) (τ 1698)), 825, rdc75 K w L, fun _ => []⟩
noncomputable def rd_v86_U_h (K : Params → KT) (w : World) (L : Lt) (c : Cls L 0 65 90 65) : List (Nat × Act) := [(23, S), (20, .bi (cLeT c 65 rfl)), (16, S), (13, .bi (cGeT c 90 rfl)), (4, .bi (cSub c 65 rfl))]
theorem rd_v86_U_t (b : Pk) (L : Lt) (c : Cls L 0 65 90 65) : FnT (b.V z0.1) (rd_v86 z0.1 b.w L) 40 (rd_v86_U_h z0.1 b.w L c) ⟨none, [(1694, .cnt)]⟩ := by intro h₁ R p i τ υ; kernel_rfl
theorem rd_v86_U_ok (b : Pk) (O : (b.V z0.1).Ok) (L : Lt) (c : Cls L 0 65 90 65) : (rd_v86 z0.1 b.w L).Ok (b.V z0.1) := okFn O (rd_v86_U_t b L c) (by kernel_rfl) (by kernel_rfl)
theorem rd_v86_ok (b : Pk) (O : (b.V z0.1).Ok) (L : Lt) (hL : LtOk L 3) (hB : Bnd L) : (rd_v86 z0.1 b.w L).Ok (b.V z0.1) := by
  have z := hB.v0
  rcases cls_of hL (r := 0) rfl with ⟨_, c⟩ | ⟨e, _, c⟩ | ⟨e, _, c⟩ | ⟨e, c⟩ | ⟨e, c⟩
  · exact rd_v86_U_ok b O L c
  · omega
  · omega
  · omega
  · omega
noncomputable def rdx88 (K : Params → KT) (w : World) (L : Lt) (τ : Nat → Nat) : PySem.Ctx := ctxC (.call (.ref 90) ⟨[.int (bv L 1) (τ 1718)], []⟩) [((rdk82 K w L τ), ⟨98, 18, 98, 37⟩), ((funcC (bodyK K w 98) (rde81 K w L τ)), ⟨84, 19, 84, 29⟩), ((funcC (bodyK K w 106) (rde83 K w L τ)), ⟨137, 11, 137, 46⟩), ((funcC (bodyK K w 135) (rde0 K w L τ)), ⟨187, 11, 187, 88⟩), (callerC, ⟨0, 0, 0, 0⟩)]
noncomputable def rd_v88 (K : Params → KT) (w : World) (L : Lt) : FnC := ⟨rdx88 K w L, 825, fun τ => .ret (.int (L.v 1) (τ 1727)), 826, rdc75 K w L, fun _ => []⟩
noncomputable def rd_v88_U_h (K : Params → KT) (w : World) (L : Lt) (c : Cls L 1 65 90 65) : List (Nat × Act) := [(23, S), (20, .bi (cLeT c 65 rfl)), (16, S), (13, .bi (cGeT c 90 rfl)), (4, .bi (cSub c 65 rfl))]
theorem rd_v88_U_t (b : Pk) (L : Lt) (c : Cls L 1 65 90 65) : FnT (b.V z0.1) (rd_v88 z0.1 b.w L) 40 (rd_v88_U_h z0.1 b.w L c) ⟨none, [(1723, .cnt)]⟩ := by intro h₁ R p i τ υ; kernel_rfl
theorem rd_v88_U_ok (b : Pk) (O : (b.V z0.1).Ok) (L : Lt) (c : Cls L 1 65 90 65) : (rd_v88 z0.1 b.w L).Ok (b.V z0.1) := okFn O (rd_v88_U_t b L c) (by kernel_rfl) (by kernel_rfl)
noncomputable def rd_v88_Lo_h (K : Params → KT) (w : World) (L : Lt) (c : Cls L 1 97 122 71) : List (Nat × Act) := [(40, S), (37, .bi (cLeT c 65 rfl)), (33, S), (30, .bi (cGeF c 90 rfl)), (23, S), (20, .bi (cLeT c 97 rfl)), (16, S), (13, .bi (cGeT c 122 rfl)), (4, .bi (cSub c 71 rfl))]
theorem rd_v88_Lo_t (b : Pk) (L : Lt) (c : Cls L 1 97 122 71) : FnT (b.V z0.1) (rd_v88 z0.1 b.w L) 57 (rd_v88_Lo_h z0.1 b.w L c) ⟨none, [(1721, .cnt)]⟩ := by intro h₁ R p i τ υ; kernel_rfl
theorem rd_v88_Lo_ok (b : Pk) (O : (b.V z0.1).Ok) (L : Lt) (c : Cls L 1 97 122 71) : (rd_v88 z0.1 b.w L).Ok (b.V z0.1) := okFn O (rd_v88_Lo_t b L c) (by kernel_rfl) (by kernel_rfl)
theorem rd_v88_ok (b : Pk) (O : (b.V z0.1).Ok) (L : Lt) (hL : LtOk L 3) (hB : Bnd L) : (rd_v88 z0.1 b.w L).Ok (b.V z0.1) := by
  have z := hB.v1
  rcases cls_of hL (r := 1) rfl with ⟨_, c⟩ | ⟨e, _, c⟩ | ⟨e, _, c⟩ | ⟨e, c⟩ | ⟨e, c⟩
  · exact rd_v88_U_ok b O L c
  · exact rd_v88_Lo_ok b O L c
  · omega
  · omega
  · omega
noncomputable def rdx90 (K : Params → KT) (w : World) (L : Lt) (τ : Nat → Nat) : PySem.Ctx := ctxC (.call (.ref 90) ⟨[.int (bv L 0) (τ 1748)], []⟩) [((rdk82 K w L τ), ⟨98, 18, 98, 37⟩), ((funcC (bodyK K w 98) (rde81 K w L τ)), ⟨84, 19, 84, 29⟩), ((funcC (bodyK K w 106) (rde83 K w L τ)), ⟨137, 11, 137, 46⟩), ((funcC (bodyK K w 135) (rde0 K w L τ)), ⟨187, 11, 187, 88⟩), (callerC, ⟨0, 0, 0, 0⟩)]
noncomputable def rd_v90 (K : Params → KT) (w : World) (L : Lt) : FnC := ⟨rdx90 K w L, 826, fun τ => .ret (.int (L.v 0) (τ 1755)), 827, rdc75 K w L, fun _ => []⟩
noncomputable def rd_v90_U_h (K : Params → KT) (w : World) (L : Lt) (c : Cls L 0 65 90 65) : List (Nat × Act) := [(23, S), (20, .bi (cLeT c 65 rfl)), (16, S), (13, .bi (cGeT c 90 rfl)), (4, .bi (cSub c 65 rfl))]
theorem rd_v90_U_t (b : Pk) (L : Lt) (c : Cls L 0 65 90 65) : FnT (b.V z0.1) (rd_v90 z0.1 b.w L) 40 (rd_v90_U_h z0.1 b.w L c) ⟨none, [(1751, .cnt)]⟩ := by intro h₁ R p i τ υ; kernel_rfl
theorem rd_v90_U_ok (b : Pk) (O : (b.V z0.1).Ok) (L : Lt) (c : Cls L 0 65 90 65) : (rd_v90 z0.1 b.w L).Ok (b.V z0.1) := okFn O (rd_v90_U_t b L c) (by kernel_rfl) (by kernel_rfl)
theorem rd_v90_ok (b : Pk) (O : (b.V z0.1).Ok) (L : Lt) (hL : LtOk L 3) (hB : Bnd L) : (rd_v90 z0.1 b.w L).Ok (b.V z0.1) := by
  have z := hB.v0
  rcases cls_of hL (r := 0) rfl with ⟨_, c⟩ | ⟨e, _, c⟩ | ⟨e, _, c⟩ | ⟨e, c⟩ | ⟨e, c⟩
  · exact rd_v90_U_ok b O L c
  · omega
  · omega
  · omega
  · omega
noncomputable def rdx92 (K : Params → KT) (w : World) (L : Lt) (τ : Nat → Nat) : PySem.Ctx := ctxC (.call (.ref 90) ⟨[.int (bv L 2) (τ 1773)], []⟩) [((rdk82 K w L τ), ⟨98, 18, 98, 37⟩), ((funcC (bodyK K w 98) (rde81 K w L τ)), ⟨84, 19, 84, 29⟩), ((funcC (bodyK K w 106) (rde83 K w L τ)), ⟨137, 11, 137, 46⟩), ((funcC (bodyK K w 135) (rde0 K w L τ)), ⟨187, 11, 187, 88⟩), (callerC, ⟨0, 0, 0, 0⟩)]
noncomputable def rd_v92 (K : Params → KT) (w : World) (L : Lt) : FnC := ⟨rdx92 K w L, 827, fun τ => .ret (.int (L.v 2) (τ 1782)), 828, rdc75 K w L, fun _ => []⟩
noncomputable def rd_v92_U_h (K : Params → KT) (w : World) (L : Lt) (c : Cls L 2 65 90 65) : List (Nat × Act) := [(23, S), (20, .bi (cLeT c 65 rfl)), (16, S), (13, .bi (cGeT c 90 rfl)), (4, .bi (cSub c 65 rfl))]
theorem rd_v92_U_t (b : Pk) (L : Lt) (c : Cls L 2 65 90 65) : FnT (b.V z0.1) (rd_v92 z0.1 b.w L) 40 (rd_v92_U_h z0.1 b.w L c) ⟨none, [(1778, .cnt)]⟩ := by intro h₁ R p i τ υ; kernel_rfl
theorem rd_v92_U_ok (b : Pk) (O : (b.V z0.1).Ok) (L : Lt) (c : Cls L 2 65 90 65) : (rd_v92 z0.1 b.w L).Ok (b.V z0.1) := okFn O (rd_v92_U_t b L c) (by kernel_rfl) (by kernel_rfl)
noncomputable def rd_v92_Lo_h (K : Params → KT) (w : World) (L : Lt) (c : Cls L 2 97 122 71) : List (Nat × Act) := [(40, S), (37, .bi (cLeT c 65 rfl)), (33, S), (30, .bi (cGeF c 90 rfl)), (23, S), (20, .bi (cLeT c 97 rfl)), (16, S), (13, .bi (cGeT c 122 rfl)), (4, .bi (cSub c 71 rfl))]
theorem rd_v92_Lo_t (b : Pk) (L : Lt) (c : Cls L 2 97 122 71) : FnT (b.V z0.1) (rd_v92 z0.1 b.w L) 57 (rd_v92_Lo_h z0.1 b.w L c) ⟨none, [(1776, .cnt)]⟩ := by intro h₁ R p i τ υ; kernel_rfl
theorem rd_v92_Lo_ok (b : Pk) (O : (b.V z0.1).Ok) (L : Lt) (c : Cls L 2 97 122 71) : (rd_v92 z0.1 b.w L).Ok (b.V z0.1) := okFn O (rd_v92_Lo_t b L c) (by kernel_rfl) (by kernel_rfl)
theorem rd_v92_ok (b : Pk) (O : (b.V z0.1).Ok) (L : Lt) (hL : LtOk L 3) (hB : Bnd L) : (rd_v92 z0.1 b.w L).Ok (b.V z0.1) := by
  have z := hB.v2
  rcases cls_of hL (r := 2) rfl with ⟨_, c⟩ | ⟨e, _, c⟩ | ⟨e, _, c⟩ | ⟨e, c⟩ | ⟨e, c⟩
  · exact rd_v92_U_ok b O L c
  · exact rd_v92_Lo_ok b O L c
  · omega
  · omega
  · omega
noncomputable def rdx94 (K : Params → KT) (w : World) (L : Lt) (τ : Nat → Nat) : PySem.Ctx := ctxC (.call (.ref 90) ⟨[.int (bv L 1) (τ 1794)], []⟩) [((rdk82 K w L τ), ⟨98, 18, 98, 37⟩), ((funcC (bodyK K w 98) (rde81 K w L τ)), ⟨84, 19, 84, 29⟩), ((funcC (bodyK K w 106) (rde83 K w L τ)), ⟨137, 11, 137, 46⟩), ((funcC (bodyK K w 135) (rde0 K w L τ)), ⟨187, 11, 187, 88⟩), (callerC, ⟨0, 0, 0, 0⟩)]
noncomputable def rd_v94 (K : Params → KT) (w : World) (L : Lt) : FnC := ⟨rdx94 K w L, 828, fun τ => .ret (.int (L.v 1) (τ 1803)), 829, rdc75 K w L, fun _ => []⟩
noncomputable def rd_v94_U_h (K : Params → KT) (w : World) (L : Lt) (c : Cls L 1 65 90 65) : List (Nat × Act) := [(23, S), (20, .bi (cLeT c 65 rfl)), (16, S), (13, .bi (cGeT c 90 rfl)), (4, .bi (cSub c 65 rfl))]
theorem rd_v94_U_t (b : Pk) (L : Lt) (c : Cls L 1 65 90 65) : FnT (b.V z0.1) (rd_v94 z0.1 b.w L) 40 (rd_v94_U_h z0.1 b.w L c) ⟨none, [(1799, .cnt)]⟩ := by intro h₁ R p i τ υ; kernel_rfl
theorem rd_v94_U_ok (b : Pk) (O : (b.V z0.1).Ok) (L : Lt) (c : Cls L 1 65 90 65) : (rd_v94 z0.1 b.w L).Ok (b.V z0.1) := okFn O (rd_v94_U_t b L c) (by kernel_rfl) (by kernel_rfl)
noncomputable def rd_v94_Lo_h (K : Params → KT) (w : World) (L : Lt) (c : Cls L 1 97 122 71) : List (Nat × Act) := [(40, S), (37, .bi (cLeT c 65 rfl)), (33, S), (30, .bi (cGeF c 90 rfl)), (23, S), (20, .bi (cLeT c 97 rfl)), (16, S), (13, .bi (cGeT c 122 rfl)), (4, .bi (cSub c 71 rfl))]
theorem rd_v94_Lo_t (b : Pk) (L : Lt) (c : Cls L 1 97 122 71) : FnT (b.V z0.1) (rd_v94 z0.1 b.w L) 57 (rd_v94_Lo_h z0.1 b.w L c) ⟨none, [(1797, .cnt)]⟩ := by intro h₁ R p i τ υ; kernel_rfl
theorem rd_v94_Lo_ok (b : Pk) (O : (b.V z0.1).Ok) (L : Lt) (c : Cls L 1 97 122 71) : (rd_v94 z0.1 b.w L).Ok (b.V z0.1) := okFn O (rd_v94_Lo_t b L c) (by kernel_rfl) (by kernel_rfl)
theorem rd_v94_ok (b : Pk) (O : (b.V z0.1).Ok) (L : Lt) (hL : LtOk L 3) (hB : Bnd L) : (rd_v94 z0.1 b.w L).Ok (b.V z0.1) := by
  have z := hB.v1
  rcases cls_of hL (r := 1) rfl with ⟨_, c⟩ | ⟨e, _, c⟩ | ⟨e, _, c⟩ | ⟨e, c⟩ | ⟨e, c⟩
  · exact rd_v94_U_ok b O L c
  · exact rd_v94_Lo_ok b O L c
  · omega
  · omega
  · omega
noncomputable def rdx96 (K : Params → KT) (w : World) (L : Lt) (τ : Nat → Nat) : PySem.Ctx := ctxC (.call (.ref 90) ⟨[.int (bv L 1) (τ 1823)], []⟩) [((rdk82 K w L τ), ⟨98, 18, 98, 37⟩), ((funcC (bodyK K w 98) (rde81 K w L τ)), ⟨84, 19, 84, 29⟩), ((funcC (bodyK K w 106) (rde83 K w L τ)), ⟨137, 11, 137, 46⟩), ((funcC (bodyK K w 135) (rde0 K w L τ)), ⟨187, 11, 187, 88⟩), (callerC, ⟨0, 0, 0, 0⟩)]
noncomputable def rd_v96 (K : Params → KT) (w : World) (L : Lt) : FnC := ⟨rdx96 K w L, 829, fun τ => .ret (.int (L.v 1) (τ 1832)), 830, rdc75 K w L, fun _ => []⟩
noncomputable def rd_v96_U_h (K : Params → KT) (w : World) (L : Lt) (c : Cls L 1 65 90 65) : List (Nat × Act) := [(23, S), (20, .bi (cLeT c 65 rfl)), (16, S), (13, .bi (cGeT c 90 rfl)), (4, .bi (cSub c 65 rfl))]
theorem rd_v96_U_t (b : Pk) (L : Lt) (c : Cls L 1 65 90 65) : FnT (b.V z0.1) (rd_v96 z0.1 b.w L) 40 (rd_v96_U_h z0.1 b.w L c) ⟨none, [(1828, .cnt)]⟩ := by intro h₁ R p i τ υ; kernel_rfl
theorem rd_v96_U_ok (b : Pk) (O : (b.V z0.1).Ok) (L : Lt) (c : Cls L 1 65 90 65) : (rd_v96 z0.1 b.w L).Ok (b.V z0.1) := okFn O (rd_v96_U_t b L c) (by kernel_rfl) (by kernel_rfl)
noncomputable def rd_v96_Lo_h (K : Params → KT) (w : World) (L : Lt) (c : Cls L 1 97 122 71) : List (Nat × Act) := [(40, S), (37, .bi (cLeT c 65 rfl)), (33, S), (30, .bi (cGeF c 90 rfl)), (23, S), (20, .bi (cLeT c 97 rfl)), (16, S), (13, .bi (cGeT c 122 rfl)), (4, .bi (cSub c 71 rfl))]
theorem rd_v96_Lo_t (b : Pk) (L : Lt) (c : Cls L 1 97 122 71) : FnT (b.V z0.1) (rd_v96 z0.1 b.w L) 57 (rd_v96_Lo_h z0.1 b.w L c) ⟨none, [(1826, .cnt)]⟩ := by intro h₁ R p i τ υ; kernel_rfl
theorem rd_v96_Lo_ok (b : Pk) (O : (b.V z0.1).Ok) (L : Lt) (c : Cls L 1 97 122 71) : (rd_v96 z0.1 b.w L).Ok (b.V z0.1) := okFn O (rd_v96_Lo_t b L c) (by kernel_rfl) (by kernel_rfl)
theorem rd_v96_ok (b : Pk) (O : (b.V z0.1).Ok) (L : Lt) (hL : LtOk L 3) (hB : Bnd L) : (rd_v96 z0.1 b.w L).Ok (b.V z0.1) := by
  have z := hB.v1
  rcases cls_of hL (r := 1) rfl with ⟨_, c⟩ | ⟨e, _, c⟩ | ⟨e, _, c⟩ | ⟨e, c⟩ | ⟨e, c⟩
  · exact rd_v96_U_ok b O L c
  · exact rd_v96_Lo_ok b O L c
  · omega
  · omega
  · omega
noncomputable def rdx98 (K : Params → KT) (w : World) (L : Lt) (τ : Nat → Nat) : PySem.Ctx := ctxC (.call (.ref 90) ⟨[.int (bv L 2) (τ 1853)], []⟩) [((rdk82 K w L τ), ⟨98, 18, 98, 37⟩), ((funcC (bodyK K w 98) (rde81 K w L τ)), ⟨84, 19, 84, 29⟩), ((funcC (bodyK K w 106) (rde83 K w L τ)), ⟨137, 11, 137, 46⟩), ((funcC (bodyK K w 135) (rde0 K w L τ)), ⟨187, 11, 187, 88⟩), (callerC, ⟨0, 0, 0, 0⟩)]
noncomputable def rd_v98 (K : Params → KT) (w : World) (L : Lt) : FnC := ⟨rdx98 K w L, 830, fun τ => .ret (.int (L.v 2) (τ 1862)), 831, rdc75 K w L, fun _ => []⟩
noncomputable def rd_v98_U_h (K : Params → KT) (w : World) (L : Lt) (c : Cls L 2 65 90 65) : List (Nat × Act) := [(23, S), (20, .bi (cLeT c 65 rfl)), (16, S), (13, .bi (cGeT c 90 rfl)), (4, .bi (cSub c 65 rfl))]
theorem rd_v98_U_t (b : Pk) (L : Lt) (c : Cls L 2 65 90 65) : FnT (b.V z0.1) (rd_v98 z0.1 b.w L) 40 (rd_v98_U_h z0.1 b.w L c) ⟨none, [(1858, .cnt)]⟩ := by intro h₁ R p i τ υ; kernel_rfl
theorem rd_v98_U_ok (b : Pk) (O : (b.V z0.1).Ok) (L : Lt) (c : Cls L 2 65 90 65) : (rd_v98 z0.1 b.w L).Ok (b.V z0.1) := okFn O (rd_v98_U_t b L c) (by kernel_rfl) (by kernel_rfl)
noncomputable def rd_v98_Lo_h (K : Params → KT) (w : World) (L : Lt) (c : Cls L 2 97 122 71) : List (Nat × Act) := [(40, S), (37, .bi (cLeT c 65 rfl)), (33, S), (30, .bi (cGeF c 90 rfl)), (23, S), (20, .bi (cLeT c 97 rfl)), (16, S), (13, .bi (cGeT c 122 rfl)), (4, .bi (cSub c 71 rfl))]
theorem rd_v98_Lo_t (b : Pk) (L : Lt) (c : Cls L 2 97 122 71) : FnT (b.V z0.1) (rd_v98 z0.1 b.w L) 57 (rd_v98_Lo_h z0.1 b.w L c) ⟨none, [(1856, .cnt)]⟩ := by intro h₁ R p i τ υ; kernel_rfl
theorem rd_v98_Lo_ok (b : Pk) (O : (b.V z0.1).Ok) (L : Lt) (c : Cls L 2 97 122 71) : (rd_v98 z0.1 b.w L).Ok (b.V z0.1) := okFn O (rd_v98_Lo_t b L c) (by kernel_rfl) (by kernel_rfl)
theorem rd_v98_ok (b : Pk) (O : (b.V z0.1).Ok) (L : Lt) (hL : LtOk L 3) (hB : Bnd L) : (rd_v98 z0.1 b.w L).Ok (b.V z0.1) := by
  have z := hB.v2
  rcases cls_of hL (r := 2) rfl with ⟨_, c⟩ | ⟨e, _, c⟩ | ⟨e, _, c⟩ | ⟨e, c⟩ | ⟨e, c⟩
  · exact rd_v98_U_ok b O L c
  · exact rd_v98_Lo_ok b O L c
  · omega
  · omega
  · omega
noncomputable def rdx100 (K : Params → KT) (w : World) (L : Lt) (τ : Nat → Nat) : PySem.Ctx := ctxC (.call (.ref 90) ⟨[.int (bv L 2) (τ 1880)], []⟩) [((rdk82 K w L τ), ⟨98, 18, 98, 37⟩), ((funcC (bodyK K w 98) (rde81 K w L τ)), ⟨84, 19, 84, 29⟩), ((funcC (bodyK K w 106) (rde83 K w L τ)), ⟨137, 11, 137, 46⟩), ((funcC (bodyK K w 135) (rde0 K w L τ)), ⟨187, 11, 187, 88⟩), (callerC, ⟨0, 0, 0, 0⟩)]
noncomputable def rd_v100 (K : Params → KT) (w : World) (L : Lt) : FnC := ⟨rdx100 K w L, 831, fun τ => .ret (.int (L.v 2) (τ 1889)), 832, rdc75 K w L, fun _ => []⟩
noncomputable def rd_v100_U_h (K : Params → KT) (w : World) (L : Lt) (c : Cls L 2 65 90 65) : List (Nat × Act) := [(23, S), (20, .bi (cLeT c 65 rfl)), (16, S), (13, .bi (cGeT c 90 rfl)), (4, .bi (cSub c 65 rfl))]
theorem rd_v100_U_t (b : Pk) (L : Lt) (c : Cls L 2 65 90 65) : FnT (b.V z0.1) (rd_v100 z0.1 b.w L) 40 (rd_v100_U_h z0.1 b.w L c) ⟨none, [(1885, .cnt)]⟩ := by intro h₁ R p i τ υ; kernel_rfl
theorem rd_v100_U_ok (b : Pk) (O : (b.V z0.1).Ok) (L : Lt) (c : Cls L 2 65 90 65) : (rd_v100 z0.1 b.w L).Ok (b.V z0.1) := okFn O (rd_v100_U_t b L c) (by kernel_rfl) (by kernel_rfl)
noncomputable def rd_v100_Lo_h (K : Params → KT) (w : World) (L : Lt) (c : Cls L 2 97 122 71) : List (Nat × Act) := [(40, S), (37, .bi (cLeT c 65 rfl)), (33, S), (30, .bi (cGeF c 90 rfl)), (23, S), (20, .bi (cLeT c 97 rfl)), (16, S), (13, .bi (cGeT c 122 rfl)), (4, .bi (cSub c 71 rfl))]
theorem rd_v100_Lo_t (b : Pk) (L : Lt) (c : Cls L 2 97 122 71) : FnT (b.V z0.1) (rd_v100 z0.1 b.w L) 57 (rd_v100_Lo_h z0.1 b.w L c) ⟨none, [(1883, .cnt)]⟩ := by intro h₁ R p i τ υ; kernel_rfl
theorem rd_v100_Lo_ok (b : Pk) (O : (b.V z0.1).Ok) (L : Lt) (c : Cls L 2 97 122 71) : (rd_v100 z0.1 b.w L).Ok (b.V z0.1) := okFn O (rd_v100_Lo_t b L c) (by kernel_rfl) (by kernel_rfl)
theorem rd_v100_ok (b : Pk) (O : (b.V z0.1).Ok) (L : Lt) (hL : LtOk L 3) (hB : Bnd L) : (rd_v100 z0.1 b.w L).Ok (b.V z0.1) := by
  have z := hB.v2
  rcases cls_of hL (r := 2) rfl with ⟨_, c⟩ | ⟨e, _, c⟩ | ⟨e, _, c⟩ | ⟨e, c⟩ | ⟨e, c⟩
  · exact rd_v100_U_ok b O L c
  · exact rd_v100_Lo_ok b O L c
  · omega
  · omega
  · omega
noncomputable def rd_top_h (K : Params → KT) (w : World) (L : Lt) (hL : LtOk L 3) (hH : HdOk L 3) (vs : List Value) (h63 : vs.length ≤ 63) : List (Nat × Act) := [(6119, .repl (rSlc vs h63)), (6112, .fn (rd_sum K w L vs) ⟨none, [(361, .cnt)]⟩), (6074, .bi (bMod L.h 5 3 (by decide) hH.m)), (6056, S), (5991, .bi (bDiv L.h 5 (L.h / 5) (by decide) (by decide) rfl)), (5984, .bi (bMod (L.h / 5) 16 (L.h / 5 % 16) (by decide) rfl)), (5978, .bi (bAdd 3 (L.h / 5 % 16) (L.v 0) hH.v0)), (5942, S), (5931, .ctr (rd_vals K w L) ⟨none, [(369, .un 6112), (363, .tau 6112), (361, .cnt)]⟩), (5914, S), (5904, .comp .list), (5878, .bi (biGet hL 0 rfl)), (5842, .bi (biGet hL 1 rfl)), (5806, .bi (biGet hL 2 rfl)), (5678, S), (5636, S), (5597, S), (5586, .ctr (rd_lm19_0 K w L) ⟨some 5931, [(414, .un 5931)]⟩), (5553, S), (5514, S), (5503, .ctr (rd_lm39_0 K w L) ⟨some 5586, [(476, .un 5586)]⟩), (5440, S), (5432, S), (5426, S), (5419, S), (5411, S), (5405, S), (5398, S), (5390, S), (5384, S), (5377, S), (5369, S), (5363, S), (5355, S), (5347, S), (5341, S), (5334, S), (5328, Q), (5320, S), (5312, S), (5306, S), (5299, S), (5293, Q), (5290, S), (5284, S), (5277, S), (5269, S), (5263, S), (5256, S), (5248, S), (5242, S), (5235, S), (5229, Q), (5211, S), (5203, .ctr (rd_row54_0 K w L) ⟨some 5503, [(689, .un 5503)]⟩), (5193, S), (5183, .comp .list), (5157, .bi (biGet hL 0 rfl)), (5121, .bi (biGet hL 0 rfl)), (5085, .bi (biGet hL 1 rfl)), (5049, .bi (biGet hL 0 rfl)), (5013, .bi (biGet hL 2 rfl)), (4977, .bi (biGet hL 1 rfl)), (4941, .bi (biGet hL 1 rfl)), (4905, .bi (biGet hL 2 rfl)), (4869, .bi (biGet hL 2 rfl)), (4761, .ctr (rd_grow62_0 K w L) ⟨some 5203, [(710, .un 5203)]⟩), (4698, S), (4695, .bi (biNe hL [2, 2, 0, 0, 1, 0, 2, 1, 1, 2] [2, 2, 0, 0, 1, 0, 2, 1, 1, 2] rfl rfl)), (4596, S), (4593, .bi (biIter hL [0, 0, 1, 0, 2, 1, 1, 2, 2, 9, 9, 9] rfl)), (4586, .comp .ascii), (4107, S), (4085, .repl (rCode hL 812 813 0 rfl)), (4069, .repl (rCode hL 812 813 0 rfl)), (4053, .repl (rCode hL 812 813 1 rfl)), (4037, .repl (rCode hL 812 813 0 rfl)), (4021, .repl (rCode hL 812 813 2 rfl)), (4005, .repl (rCode hL 812 813 1 rfl)), (3989, .repl (rCode hL 812 813 1 rfl)), (3973, .repl (rCode hL 812 813 2 rfl)), (3957, .repl (rCode hL 812 813 2 rfl)), (3578, S), (3548, S), (3545, .bi (aPad hL 0 rfl)), (3535, .fn (rd_v81 K w L) ⟨some 4761, [(1589, .un 4761)]⟩), (3521, S), (3518, .bi (aGe64 hL 0 rfl)), (3495, S), (3432, S), (3429, .bi (aPad hL 0 rfl)), (3419, .fn (rd_v86 K w L) ⟨some 4761, [(1680, .un 3535), (1675, .tau 3535), (1589, .un 4761)]⟩), (3405, S), (3402, .bi (aGe64 hL 0 rfl)), (3379, S), (3370, S), (3342, .bi (aShl2 hL 0 rfl)), (3333, .bi (aShr4 hL 0 rfl)), (3327, .bi (aOr0 hL 0 0 rfl rfl)), (3308, .bi (aAnd15 hL 0 rfl)), (3258, S), (3255, .bi (aPad hL 1 rfl)), (3245, .fn (rd_v88 K w L) ⟨some 4761, [(1699, .un 3419), (1694, .tau 3419), (1680, .un 3535), (1675, .tau 3535), (1589, .un 4761)]⟩), (3231, S), (3228, .bi (aGe64 hL 1 rfl)), (3205, S), (3196, S), (3187, S), (3159, .bi (aShl4 hL 0 rfl)), (3150, .bi (aShr2 hL 1 rfl)), (3144, .bi (aOr1 hL 0 1 rfl rfl)), (3125, .bi (aAnd3 hL 1 rfl)), (3075, S), (3072, .bi (aPad hL 0 rfl)), (3062, .fn (rd_v90 K w L) ⟨some 4761, [(1728, .un 3245), (1721, .tau 3245), (1699, .un 3419), (1694, .tau 3419), (1680, .un 3535), (1675, .tau 3535), (1589, .un 4761)]⟩), (3048, S), (3045, .bi (aGe64 hL 0 rfl)), (3022, S), (3013, S), (3004, S), (2976, .bi (aShl6 hL 1 rfl)), (2968, .bi (aOr2 hL 1 0 rfl rfl)), (2907, S), (2904, .bi (aPad hL 2 rfl)), (2894, .fn (rd_v92 K w L) ⟨some 4761, [(1756, .un 3062), (1751, .tau 3062), (1728, .un 3245), (1721, .tau 3245), (1699, .un 3419), (1694, .tau 3419), (1680, .un 3535), (1675, .tau 3535), (1589, .un 4761)]⟩), (2880, S), (2877, .bi (aGe64 hL 2 rfl)), (2854, S), (2791, S), (2788, .bi (aPad hL 1 rfl)), (2778, .fn (rd_v94 K w L) ⟨some 4761, [(1783, .un 2894), (1776, .tau 2894), (1756, .un 3062), (1751, .tau 3062), (1728, .un 3245), (1721, .tau 3245), (1699, .un 3419), (1694, .tau 3419), (1680, .un 3535), (1675, .tau 3535), (1589, .un 4761)]⟩), (2764, S), (2761, .bi (aGe64 hL 1 rfl)), (2738, S), (2729, S), (2701, .bi (aShl2 hL 2 rfl)), (2692, .bi (aShr4 hL 1 rfl)), (2686, .bi (aOr0 hL 2 1 rfl rfl)), (2667, .bi (aAnd15 hL 1 rfl)), (2617, S), (2614, .bi (aPad hL 1 rfl)), (2604, .fn (rd_v96 K w L) ⟨some 4761, [(1804, .un 2778), (1797, .tau 2778), (1783, .un 2894), (1776, .tau 2894), (1756, .un 3062), (1751, .tau 3062), (1728, .un 3245), (1721, .tau 3245), (1699, .un 3419), (1694, .tau 3419), (1680, .un 3535), (1675, .tau 3535), (1589, .un 4761)]⟩), (2590, S), (2587, .bi (aGe64 hL 1 rfl)), (2564, S), (2555, S), (2546, S), (2518, .bi (aShl4 hL 1 rfl)), (2509, .bi (aShr2 hL 1 rfl)), (2503, .bi (aOr1 hL 1 1 rfl rfl)), (2484, .bi (aAnd3 hL 1 rfl)), (2434, S), (2431, .bi (aPad hL 2 rfl)), (2421, .fn (rd_v98 K w L) ⟨some 4761, [(1833, .un 2604), (1826, .tau 2604), (1804, .un 2778), (1797, .tau 2778), (1783, .un 2894), (1776, .tau 2894), (1756, .un 3062), (1751, .tau 3062), (1728, .un 3245), (1721, .tau 3245), (1699, .un 3419), (1694, .tau 3419), (1680, .un 3535), (1675, .tau 3535), (1589, .un 4761)]⟩), (2407, S), (2404, .bi (aGe64 hL 2 rfl)), (2381, S), (2372, S), (2363, S), (2335, .bi (aShl6 hL 1 rfl)), (2327, .bi (aOr2 hL 1 2 rfl rfl)), (2266, S), (2263, .bi (aPad hL 2 rfl)), (2253, .fn (rd_v100 K w L) ⟨some 4761, [(1863, .un 2421), (1856, .tau 2421), (1833, .un 2604), (1826, .tau 2604), (1804, .un 2778), (1797, .tau 2778), (1783, .un 2894), (1776, .tau 2894), (1756, .un 3062), (1751, .tau 3062), (1728, .un 3245), (1721, .tau 3245), (1699, .un 3419), (1694, .tau 3419), (1680, .un 3535), (1675, .tau 3535), (1589, .un 4761)]⟩), (2239, S), (2236, .bi (aGe64 hL 2 rfl)), (2213, S), (2150, S), (2122, S), (2116, S), (2089, S), (2064, S), (2055, S), (2027, .bi (aShl2 hL 2 rfl)), (2018, .bi (aShr4 hL 9 rfl)), (2012, .bi (aOr0 hL 2 9 rfl rfl)), (1993, .bi (aAnd15 hL 9 rfl)), (1943, S), (1915, S), (1909, S), (1882, S), (1857, S), (1848, S), (1839, S), (1811, .bi (aShl4 hL 9 rfl)), (1802, .bi (aShr2 hL 9 rfl)), (1796, .bi (aOr1 hL 9 9 rfl rfl)), (1777, .bi (aAnd3 hL 9 rfl)), (1727, S), (1699, S), (1693, S), (1666, S), (1641, S), (1632, S), (1623, S), (1595, .bi (aShl6 hL 9 rfl)), (1587, .bi (aOr2 hL 9 9 rfl rfl)), (1527, S), (1518, S), (1496, S), (1474, .repl (rQ0 hL 837 838 0 0 rfl rfl)), (1458, .repl (rQ1 hL 837 838 0 1 rfl rfl)), (1442, .repl (rQ2 hL 837 838 1 0 rfl rfl)), (1426, .repl (rQ0 hL 837 838 2 1 rfl rfl)), (1410, .repl (rQ1 hL 837 838 1 1 rfl rfl)), (1394, .repl (rQ2 hL 837 838 1 2 rfl rfl)), (1378, .repl (rQ0 hL 837 838 2 9 rfl rfl)), (1362, .repl (rQ1 hL 837 838 9 9 rfl rfl)), (1346, .repl (rQ2 hL 837 838 9 9 rfl rfl)), (1198, S), (1124, S), (1084, .bi (aAdd1 L 0)), (1048, .bi (aMul1 L 0)), (1040, .bi (aAdd2 L 0 0)), (1004, .bi (aMul2 L 0 0)), (996, .bi (aAdd3 L 0 0 1)), (960, .bi (aMul3 L 0 0 1)), (952, .bi (aAdd4 L 0 0 1 0)), (907, .bi (aDiv0 hL 0 0 1 0 rfl rfl rfl rfl)), (898, .bi (aDiv1 L 0 0 1 0)), (891, .bi (aMod1 hL 0 0 1 0 rfl rfl rfl rfl)), (882, .bi (aMod2 hL 0 0 1 0 rfl rfl rfl rfl)), (802, S), (762, .bi (aAdd1 L 2)), (726, .bi (aMul1 L 2)), (718, .bi (aAdd2 L 2 1)), (682, .bi (aMul2 L 2 1)), (674, .bi (aAdd3 L 2 1 1)), (638, .bi (aMul3 L 2 1 1)), (630, .bi (aAdd4 L 2 1 1 2)), (585, .bi (aDiv0 hL 2 1 1 2 rfl rfl rfl rfl)), (576, .bi (aDiv1 L 2 1 1 2)), (569, .bi (aMod1 hL 2 1 1 2 rfl rfl rfl rfl)), (560, .bi (aMod2 hL 2 1 1 2 rfl rfl rfl rfl)), (480, S), (440, .bi (aAdd1 L 2)), (404, .bi (aMul1 L 2)), (396, .bi (aAdd2 L 2 9)), (360, .bi (aMul2 L 2 9)), (352, .bi (aAdd3 L 2 9 9)), (316, .bi (aMul3 L 2 9 9)), (308, .bi (aAdd4 L 2 9 9 9)), (263, .bi (aDiv0 hL 2 9 9 9 rfl rfl rfl rfl)), (254, .bi (aDiv1 L 2 9 9 9)), (247, .bi (aMod1 hL 2 9 9 9 rfl rfl rfl rfl)), (238, .bi (aMod2 hL 2 9 9 9 rfl rfl rfl rfl)), (187, S), (165, .repl (rQ0 hL 868 869 0 0 rfl rfl)), (149, .repl (rQ1 hL 868 869 0 1 rfl rfl)), (133, .repl (rQ2 hL 868 869 1 0 rfl rfl)), (117, .repl (rQ0 hL 868 869 2 1 rfl rfl)), (101, .repl (rQ1 hL 868 869 1 1 rfl rfl)), (85, .repl (rQ2 hL 868 869 1 2 rfl rfl)), (69, .repl (rQ0 hL 868 869 2 9 rfl rfl)), (53, .repl (rQ1 hL 868 869 9 9 rfl rfl)), (37, .repl (rQ2 hL 868 869 9 9 rfl rfl)), (6, S), (3, .bi (bBytes [q0 L 0 0, q1 L 0 1, q2 L 1 0, q0 L 2 1, q1 L 1 1, q2 L 1 2, q0 L 2 9, q1 L 9 9, q2 L 9 9]))]
theorem rd_top_t (b : Pk) (L : Lt) (hL : LtOk L 3) (hH : HdOk L 3) (h63 : b.vs.length ≤ 63) : TopT (b.V z0.1) G0 default 6154 137 (rd_top_h z0.1 b.w L hL hH b.vs h63) := by intro i τ υ; kernel_rfl
theorem rd_top (b : Pk) (O : (b.V z0.1).Ok) (L : Lt) (hL : LtOk L 3) (hH : HdOk L 3) (h63 : b.vs.length ≤ 63) (hB : Bnd L) (hsum : (rd_sum z0.1 b.w L b.vs).Ok (b.V z0.1)) (hvals : (rd_vals z0.1 b.w L).Ok (b.V z0.1)) (i : Nat) (hR : ∀ T m' i' ch h, RepK (b.V z0.1) h T m' ch → b.R₀ (.ok (.ret (.bool true))) ⟨h, ⟨[]⟩, b.d, b.t₀ + i', b.os⟩) : GoX (b.V z0.1) G0 default .base (dF G0.code) .nil 137 i [] :=
  top_go O (rd_top_t b L hL hH h63) (met (.fn hsum ⟨none, [(361, .cnt)]⟩ (.ctr hvals ⟨none, [(369, .un 6112), (363, .tau 6112), (361, .cnt)]⟩ (.ctr (rd_lm19_0_ok b O L hL hB) ⟨some 5931, [(414, .un 5931)]⟩ (.ctr (rd_lm39_0_ok b O L hL hB) ⟨some 5586, [(476, .un 5586)]⟩ (.ctr (rd_row54_0_ok b O L hL hB) ⟨some 5503, [(689, .un 5503)]⟩ (.ctr (rd_grow62_0_ok b O L hL hB) ⟨some 5203, [(710, .un 5203)]⟩ (.fn (rd_v81_ok b O L hL hB) ⟨some 4761, [(1589, .un 4761)]⟩ (.fn (rd_v86_ok b O L hL hB) ⟨some 4761, [(1680, .un 3535), (1675, .tau 3535), (1589, .un 4761)]⟩ (.fn (rd_v88_ok b O L hL hB) ⟨some 4761, [(1699, .un 3419), (1694, .tau 3419), (1680, .un 3535), (1675, .tau 3535), (1589, .un 4761)]⟩ (.fn (rd_v90_ok b O L hL hB) ⟨some 4761, [(1728, .un 3245), (1721, .tau 3245), (1699, .un 3419), (1694, .tau 3419), (1680, .un 3535), (1675, .tau 3535), (1589, .un 4761)]⟩ (.fn (rd_v92_ok b O L hL hB) ⟨some 4761, [(1756, .un 3062), (1751, .tau 3062), (1728, .un 3245), (1721, .tau 3245), (1699, .un 3419), (1694, .tau 3419), (1680, .un 3535), (1675, .tau 3535), (1589, .un 4761)]⟩ (.fn (rd_v94_ok b O L hL hB) ⟨some 4761, [(1783, .un 2894), (1776, .tau 2894), (1756, .un 3062), (1751, .tau 3062), (1728, .un 3245), (1721, .tau 3245), (1699, .un 3419), (1694, .tau 3419), (1680, .un 3535), (1675, .tau 3535), (1589, .un 4761)]⟩ (.fn (rd_v96_ok b O L hL hB) ⟨some 4761, [(1804, .un 2778), (1797, .tau 2778), (1783, .un 2894), (1776, .tau 2894), (1756, .un 3062), (1751, .tau 3062), (1728, .un 3245), (1721, .tau 3245), (1699, .un 3419), (1694, .tau 3419), (1680, .un 3535), (1675, .tau 3535), (1589, .un 4761)]⟩ (.fn (rd_v98_ok b O L hL hB) ⟨some 4761, [(1833, .un 2604), (1826, .tau 2604), (1804, .un 2778), (1797, .tau 2778), (1783, .un 2894), (1776, .tau 2894), (1756, .un 3062), (1751, .tau 3062), (1728, .un 3245), (1721, .tau 3245), (1699, .un 3419), (1694, .tau 3419), (1680, .un 3535), (1675, .tau 3535), (1589, .un 4761)]⟩ (.fn (rd_v100_ok b O L hL hB) ⟨some 4761, [(1863, .un 2421), (1856, .tau 2421), (1833, .un 2604), (1826, .tau 2604), (1804, .un 2778), (1797, .tau 2778), (1783, .un 2894), (1776, .tau 2894), (1756, .un 3062), (1751, .tau 3062), (1728, .un 3245), (1721, .tau 3245), (1699, .un 3419), (1694, .tau 3419), (1680, .un 3535), (1675, .tau 3535), (1589, .un 4761)]⟩ .nil))))))))))))))) (by kernel_rfl)) i hR

end Mine
end
section
open PySem PySem.W PySem.W.X PyProof.Rows
set_option maxRecDepth 100000
namespace Mine
noncomputable def ree0 (K : Params → KT) (w : World) (L : Lt) (τ : Nat → Nat) : Env := ⟨(fdK K w 135).scope, 137, 3, [(⟨⟨[98, 97, 115, 101]⟩⟩, 139), (⟨⟨[118, 97, 108, 117, 101, 115]⟩⟩, 138)], ⟨⟨[108, 97, 119, 46, 60, 108, 111, 99, 97, 108, 115, 62, 46]⟩⟩, some 135, (.ref 134), some 137, 0⟩
noncomputable def rex1 (K : Params → KT) (w : World) (L : Lt) (τ : Nat → Nat) : PySem.Ctx := ctxC (.builtin "sum" ⟨[.ref 141], []⟩) [((funcC (bodyK K w 135) (ree0 K w L τ)), ⟨172, 11, 172, 27⟩), (callerC, ⟨0, 0, 0, 0⟩)]
noncomputable def rec2 (K : Params → KT) (w : World) (L : Lt) (τ : Nat → Nat) : Ch := []
noncomputable def re_sum (K : Params → KT) (w : World) (L : Lt) (vs : List Value) : FnC := ⟨rex1 K w L, 142, fun τ => .ret (.int L.h (τ 368)), 146, rec2 K w L, fun _ => [(141, ⟨.type "list", none, .seq (slc vs) 0, #[]⟩)]⟩
theorem re_sum_ok (b : Pk) (L : Lt) (val : Nat → Int) (h63 : b.vs.length ≤ 63) (hv : ∀ i, i < b.vs.length → ∃ t, b.vs[i]? = some (.int (val i) t)) (hh : preSum val b.vs.length = L.h) : (re_sum z0.1 b.w L b.vs).Ok (b.V z0.1) :=
  sum_ok (m := 142) (a := 141) (fun _ => rfl) ⟨rfl, rfl⟩ (fun z => ⟨fun _ => z, rfl⟩) (fun _ => by kernel_rfl) h63 hv hh
noncomputable def rek3 (K : Params → KT) (w : World) (L : Lt) (τ : Nat → Nat) : Code := loopC (stmtAt (bodyK K w 135) [3]) (.ref 157) (ree0 K w L τ)
noncomputable def rex4 (K : Params → KT) (w : World) (L : Lt) (τ : Nat → Nat) : PySem.Ctx := ctxC (rek3 K w L τ) [((funcC (bodyK K w 135) (ree0 K w L τ)), ⟨175, 13, 175, 24⟩), (callerC, ⟨0, 0, 0, 0⟩)]
noncomputable def reo5 (K : Params → KT) (w : World) (L : Lt) (τ : Nat → Nat) : Obj := ⟨(.type "frame"), none, (.dict ⟨[entS w ⟨⟨[115, 99, 114, 105, 112, 116]⟩⟩ (τ 361) (.ref 136), entS w ⟨⟨[104, 101, 97, 100]⟩⟩ (τ 369) (.int L.h (τ 368)), entS w ⟨⟨[107]⟩⟩ (τ 382) (.int 3 (τ 378)), entS w ⟨⟨[110]⟩⟩ (τ 383) (.int 3 (τ 379))]⟩ 4), ⟨[]⟩⟩
noncomputable def reo6 (K : Params → KT) (w : World) (L : Lt) (τ : Nat → Nat) : Obj := ⟨(.type "cell"), none, (.cell (some (.ref 155))), ⟨[]⟩⟩
noncomputable def reo7 (K : Params → KT) (w : World) (L : Lt) (τ : Nat → Nat) : Obj := ⟨(.type "cell"), none, (.cell none), ⟨[]⟩⟩
noncomputable def reo8 (K : Params → KT) (w : World) (L : Lt) (τ : Nat → Nat) : Obj := ⟨(.type "list"), none, (.seq ⟨[(.int (L.v 0) (τ 389))]⟩ 0), ⟨[]⟩⟩
noncomputable def reo9 (K : Params → KT) (w : World) (L : Lt) (τ : Nat → Nat) : Obj := ⟨(.type "range_iterator"), none, (.fields ⟨[(.int 1 0), (.int 2 0), (.int 1 0)]⟩), ⟨[]⟩⟩
noncomputable def rel10 (K : Params → KT) (w : World) (L : Lt) (τ : Nat → Nat) : List (Addr × Obj) := [(137, reo5 K w L τ), (138, reo6 K w L τ), (139, reo7 K w L τ), (155, reo8 K w L τ), (157, reo9 K w L τ)]
noncomputable def rex11 (K : Params → KT) (w : World) (L : Lt) (τ : Nat → Nat) : PySem.Ctx := ctxC (.builtin "len" ⟨[.ref 136], []⟩) [((rek3 K w L τ), ⟨176, 62, 176, 73⟩), ((funcC (bodyK K w 135) (ree0 K w L τ)), ⟨175, 13, 175, 24⟩), (callerC, ⟨0, 0, 0, 0⟩)]
noncomputable def re_len11 (K : Params → KT) (w : World) (L : Lt) (vs : List Value) : FnC := ⟨rex11 K w L, 158, fun τ => .ret (.int (Int.ofNat vs.toArray.size) (τ 399)), 158, rec2 K w L, fun _ => []⟩
theorem re_len11_ok (b : Pk) (O : (b.V z0.1).Ok) (L : Lt) (h63 : b.vs.length ≤ 63) : (re_len11 z0.1 b.w L b.vs).Ok (b.V z0.1) :=
  len_ok (m := 158) (a := 136) O (fun _ => rfl) ⟨rfl, rfl⟩ (fun z => ⟨fun _ => z, rfl⟩) (fun _ => by kernel_rfl) h63
noncomputable def re_len13 (K : Params → KT) (w : World) (L : Lt) (vs : List Value) : FnC := ⟨rex11 K w L, 158, fun τ => .ret (.int (Int.ofNat vs.toArray.size) (τ 410)), 158, rec2 K w L, fun _ => []⟩
theorem re_len13_ok (b : Pk) (O : (b.V z0.1).Ok) (L : Lt) (h63 : b.vs.length ≤ 63) : (re_len13 z0.1 b.w L b.vs).Ok (b.V z0.1) :=
  len_ok (m := 158) (a := 136) O (fun _ => rfl) ⟨rfl, rfl⟩ (fun z => ⟨fun _ => z, rfl⟩) (fun _ => by kernel_rfl) h63
noncomputable def reo14 (K : Params → KT) (w : World) (L : Lt) (τ : Nat → Nat) : Obj := ⟨(.type "frame"), none, (.dict ⟨[entS w ⟨⟨[115, 99, 114, 105, 112, 116]⟩⟩ (τ 361) (.ref 136), entS w ⟨⟨[104, 101, 97, 100]⟩⟩ (τ 369) (.int L.h (τ 368)), entS w ⟨⟨[107]⟩⟩ (τ 382) (.int 3 (τ 378)), entS w ⟨⟨[110]⟩⟩ (τ 383) (.int 3 (τ 379)), entS w ⟨⟨[114]⟩⟩ (τ 393) (.int 2 (τ 403))]⟩ 5), ⟨[]⟩⟩
noncomputable def reo15 (K : Params → KT) (w : World) (L : Lt) (τ : Nat → Nat) : Obj := ⟨(.type "list"), none, (.seq ⟨[(.int (L.v 0) (τ 389)), (.int (L.v 1) (τ 402)), (.int (L.v 2) (τ 413))]⟩ 2), ⟨[]⟩⟩
noncomputable def rel16 (K : Params → KT) (w : World) (L : Lt) (τ : Nat → Nat) : List (Addr × Obj) := [(137, reo14 K w L τ), (138, reo6 K w L τ), (139, reo7 K w L τ), (155, reo15 K w L τ)]
noncomputable def re_vals (K : Params → KT) (w : World) (L : Lt) : Ctr := ⟨rex4 K w L, fun τ => dF (rex4 K w L τ).code, rel10 K w L, rec2 K w L, 158, fun τ => .next, rel16 K w L, rec2 K w L, 160⟩
noncomputable def re_vals_s0_h (K : Params → KT) (w : World) (L : Lt) (xs : Nat → Int) (ts : Nat → Nat) (rest : List Value) (h1 : L.v 0 + 1 + 0 = L.v 1) (h2 : L.v 1 + 1 + 0 = L.v 2) : List (Nat × Act) := [(133, S), (125, .bi (bAdd (L.v 0 + 1) 0 (L.v 1) h1)), (37, S), (29, .bi (bAdd (L.v 1 + 1) 0 (L.v 2) h2))]
theorem re_vals_s0_t (b : Pk) (L : Lt) (xs : Nat → Int) (ts : Nat → Nat) (rest : List Value) (h1 : L.v 0 + 1 + 0 = L.v 1) (h2 : L.v 1 + 1 + 0 = L.v 2) : FinT ((b.on []).V z0.1) (re_vals z0.1 b.w L) 209 (re_vals_s0_h z0.1 b.w L xs ts rest h1 h2) ⟨none, [(413, .off 19), (403, .off 10), (402, .off 9), (393, .off 1)]⟩ := by intro R p i τ υ; kernel_rfl
theorem re_vals_s0_ok (b : Pk) (L : Lt) (xs : Nat → Int) (ts : Nat → Nat) (rest : List Value) (h1 : L.v 0 + 1 + 0 = L.v 1) (h2 : L.v 1 + 1 + 0 = L.v 2) (O : ((b.on []).V z0.1).Ok) (h63 : List.length (α := Value) [] ≤ 63) : (re_vals z0.1 b.w L).Ok ((b.on []).V z0.1) := okF O (re_vals_s0_t b L xs ts rest h1 h2) (met .nil (by kernel_rfl))
noncomputable def re_vals_s1_h (K : Params → KT) (w : World) (L : Lt) (xs : Nat → Int) (ts : Nat → Nat) (rest : List Value) (h1 : L.v 0 + 1 + 0 = L.v 1) (h2 : L.v 1 + 1 + 0 = L.v 2) : List (Nat × Act) := [(133, S), (125, .bi (bAdd (L.v 0 + 1) 0 (L.v 1) h1)), (37, S), (29, .bi (bAdd (L.v 1 + 1) 0 (L.v 2) h2))]
theorem re_vals_s1_t (b : Pk) (L : Lt) (xs : Nat → Int) (ts : Nat → Nat) (rest : List Value) (h1 : L.v 0 + 1 + 0 = L.v 1) (h2 : L.v 1 + 1 + 0 = L.v 2) : FinT ((b.on [.int (xs 0) (ts 0)]).V z0.1) (re_vals z0.1 b.w L) 209 (re_vals_s1_h z0.1 b.w L xs ts rest h1 h2) ⟨none, [(413, .off 19), (403, .off 10), (402, .off 9), (393, .off 1)]⟩ := by intro R p i τ υ; kernel_rfl
theorem re_vals_s1_ok (b : Pk) (L : Lt) (xs : Nat → Int) (ts : Nat → Nat) (rest : List Value) (h1 : L.v 0 + 1 + 0 = L.v 1) (h2 : L.v 1 + 1 + 0 = L.v 2) (O : ((b.on [.int (xs 0) (ts 0)]).V z0.1).Ok) (h63 : List.length (α := Value) [.int (xs 0) (ts 0)] ≤ 63) : (re_vals z0.1 b.w L).Ok ((b.on [.int (xs 0) (ts 0)]).V z0.1) := okF O (re_vals_s1_t b L xs ts rest h1 h2) (met .nil (by kernel_rfl))
noncomputable def re_vals_s2_h (K : Params → KT) (w : World) (L : Lt) (xs : Nat → Int) (ts : Nat → Nat) (rest : List Value) (h1 : L.v 0 + 1 + (Int.fmod (xs 1) 15) = L.v 1) (h2 : L.v 1 + 1 + 0 = L.v 2) : List (Nat × Act) := [(151, S), (125, .bi (bAdd (L.v 0 + 1) (Int.fmod (xs 1) 15) (L.v 1) h1)), (37, S), (29, .bi (bAdd (L.v 1 + 1) 0 (L.v 2) h2))]
theorem re_vals_s2_t (b : Pk) (L : Lt) (xs : Nat → Int) (ts : Nat → Nat) (rest : List Value) (h1 : L.v 0 + 1 + (Int.fmod (xs 1) 15) = L.v 1) (h2 : L.v 1 + 1 + 0 = L.v 2) : FinT ((b.on [.int (xs 0) (ts 0), .int (xs 1) (ts 1)]).V z0.1) (re_vals z0.1 b.w L) 227 (re_vals_s2_h z0.1 b.w L xs ts rest h1 h2) ⟨none, [(413, .off 20), (403, .off 11), (402, .off 10), (393, .off 1)]⟩ := by intro R p i τ υ; kernel_rfl
theorem re_vals_s2_ok (b : Pk) (L : Lt) (xs : Nat → Int) (ts : Nat → Nat) (rest : List Value) (h1 : L.v 0 + 1 + (Int.fmod (xs 1) 15) = L.v 1) (h2 : L.v 1 + 1 + 0 = L.v 2) (O : ((b.on [.int (xs 0) (ts 0), .int (xs 1) (ts 1)]).V z0.1).Ok) (h63 : List.length (α := Value) [.int (xs 0) (ts 0), .int (xs 1) (ts 1)] ≤ 63) : (re_vals z0.1 b.w L).Ok ((b.on [.int (xs 0) (ts 0), .int (xs 1) (ts 1)]).V z0.1) := okF O (re_vals_s2_t b L xs ts rest h1 h2) (met .nil (by kernel_rfl))
noncomputable def re_len17 (K : Params → KT) (w : World) (L : Lt) (vs : List Value) : FnC := ⟨rex11 K w L, 158, fun τ => .ret (.int (Int.ofNat vs.toArray.size) (τ 399)), 158, rec2 K w L, fun _ => []⟩
theorem re_len17_ok (b : Pk) (O : (b.V z0.1).Ok) (L : Lt) (h63 : b.vs.length ≤ 63) : (re_len17 z0.1 b.w L b.vs).Ok (b.V z0.1) :=
  len_ok (m := 158) (a := 136) O (fun _ => rfl) ⟨rfl, rfl⟩ (fun z => ⟨fun _ => z, rfl⟩) (fun _ => by kernel_rfl) h63
noncomputable def re_len18 (K : Params → KT) (w : World) (L : Lt) (vs : List Value) : FnC := ⟨rex11 K w L, 158, fun τ => .ret (.int (Int.ofNat vs.toArray.size) (τ 410)), 158, rec2 K w L, fun _ => []⟩
theorem re_len18_ok (b : Pk) (O : (b.V z0.1).Ok) (L : Lt) (h63 : b.vs.length ≤ 63) : (re_len18 z0.1 b.w L b.vs).Ok (b.V z0.1) :=
  len_ok (m := 158) (a := 136) O (fun _ => rfl) ⟨rfl, rfl⟩ (fun z => ⟨fun _ => z, rfl⟩) (fun _ => by kernel_rfl) h63
noncomputable def re_vals_s3_h (K : Params → KT) (w : World) (L : Lt) (xs : Nat → Int) (ts : Nat → Nat) (rest : List Value) (h1 : L.v 0 + 1 + (Int.fmod (xs 1) 15) = L.v 1) (h2 : L.v 1 + 1 + (Int.fmod (xs 2) 15) = L.v 2) : List (Nat × Act) := [(165, .fn (re_len17 K w L (.int (xs 0) (ts 0) :: .int (xs 1) (ts 1) :: .int (xs 2) (ts 2) :: rest)) ⟨none, [(392, .cnt)]⟩), (162, S), (159, .bi (aLt 1 (.int (xs 0) (ts 0) :: .int (xs 1) (ts 1) :: .int (xs 2) (ts 2) :: rest) (by simp only [List.length_cons]; omega))), (135, .bi (bAdd (L.v 0 + 1) (Int.fmod (xs 1) 15) (L.v 1) h1)), (59, .fn (re_len18 K w L (.int (xs 0) (ts 0) :: .int (xs 1) (ts 1) :: .int (xs 2) (ts 2) :: rest)) ⟨none, [(400, .un 165), (398, .tau 165), (392, .cnt)]⟩), (56, S), (53, .bi (aLt 2 (.int (xs 0) (ts 0) :: .int (xs 1) (ts 1) :: .int (xs 2) (ts 2) :: rest) (by simp only [List.length_cons]; omega))), (29, .bi (bAdd (L.v 1 + 1) (Int.fmod (xs 2) 15) (L.v 2) h2))]
theorem re_vals_s3_t (b : Pk) (L : Lt) (xs : Nat → Int) (ts : Nat → Nat) (rest : List Value) (h1 : L.v 0 + 1 + (Int.fmod (xs 1) 15) = L.v 1) (h2 : L.v 1 + 1 + (Int.fmod (xs 2) 15) = L.v 2) : FinT ((b.on (.int (xs 0) (ts 0) :: .int (xs 1) (ts 1) :: .int (xs 2) (ts 2) :: rest)).V z0.1) (re_vals z0.1 b.w L) 229 (re_vals_s3_h z0.1 b.w L xs ts rest h1 h2) ⟨none, [(411, .un 59), (409, .tau 59), (400, .un 165), (398, .tau 165), (392, .cnt)]⟩ := by intro R p i τ υ; kernel_rfl
theorem re_vals_s3_ok (b : Pk) (L : Lt) (xs : Nat → Int) (ts : Nat → Nat) (rest : List Value) (h1 : L.v 0 + 1 + (Int.fmod (xs 1) 15) = L.v 1) (h2 : L.v 1 + 1 + (Int.fmod (xs 2) 15) = L.v 2) (O : ((b.on (.int (xs 0) (ts 0) :: .int (xs 1) (ts 1) :: .int (xs 2) (ts 2) :: rest)).V z0.1).Ok) (h63 : List.length (α := Value) (.int (xs 0) (ts 0) :: .int (xs 1) (ts 1) :: .int (xs 2) (ts 2) :: rest) ≤ 63) : (re_vals z0.1 b.w L).Ok ((b.on (.int (xs 0) (ts 0) :: .int (xs 1) (ts 1) :: .int (xs 2) (ts 2) :: rest)).V z0.1) := okF O (re_vals_s3_t b L xs ts rest h1 h2) (met (.fn (re_len17_ok _ O L h63) ⟨none, [(392, .cnt)]⟩ (.fn (re_len18_ok _ O L h63) ⟨none, [(400, .un 165), (398, .tau 165), (392, .cnt)]⟩ .nil)) (by kernel_rfl))
noncomputable def ree19 (K : Params → KT) (w : World) (L : Lt) (τ : Nat → Nat) : Env := ⟨(fdK K w 130).scope, 166, 3, [(⟨⟨[119, 111, 114, 100]⟩⟩, 170), (⟨⟨[109]⟩⟩, 169), (⟨⟨[115, 105, 122, 101]⟩⟩, 168), (⟨⟨[107]⟩⟩, 167)], ⟨⟨[95, 108, 97, 119, 95, 108, 121, 110, 100, 111, 110, 46, 60, 108, 111, 99, 97, 108, 115, 62, 46]⟩⟩, some 130, (.ref 129), some 166, 0⟩
noncomputable def rek20 (K : Params → KT) (w : World) (L : Lt) (τ : Nat → Nat) : Code := loopC (stmtAt (bodyK K w 130) [1, 0, 0]) (.ref 175) (ree19 K w L τ)
noncomputable def rek21 (K : Params → KT) (w : World) (L : Lt) (τ : Nat → Nat) : Code := loopC (stmtAt (bodyK K w 130) [1]) (.ref 173) (ree19 K w L τ)
noncomputable def rex22 (K : Params → KT) (w : World) (L : Lt) (τ : Nat → Nat) : PySem.Ctx := ctxC (rek20 K w L τ) [((rek21 K w L τ), ⟨166, 21, 166, 37⟩), ((funcC (bodyK K w 130) (ree19 K w L τ)), ⟨164, 16, 164, 31⟩), ((funcC (bodyK K w 135) (ree0 K w L τ)), ⟨180, 16, 180, 33⟩), (callerC, ⟨0, 0, 0, 0⟩)]
noncomputable def reo23 (K : Params → KT) (w : World) (L : Lt) (τ : Nat → Nat) : Obj := ⟨(.type "frame"), none, (.dict ⟨[entS w ⟨⟨[115, 99, 114, 105, 112, 116]⟩⟩ (τ 361) (.ref 136), entS w ⟨⟨[104, 101, 97, 100]⟩⟩ (τ 369) (.int L.h (τ 368)), entS w ⟨⟨[107]⟩⟩ (τ 382) (.int 3 (τ 378)), entS w ⟨⟨[110]⟩⟩ (τ 383) (.int 3 (τ 379)), entS w ⟨⟨[114]⟩⟩ (τ 393) (.int 2 (τ 403)), entS w ⟨⟨[108, 101, 116, 116, 101, 114, 115]⟩⟩ (τ 423) (.str (rel L [0, 1, 2]) (τ 422)), entS w ⟨⟨[114, 111, 119]⟩⟩ (τ 424) (.ref 165)]⟩ 7), ⟨[]⟩⟩
noncomputable def reo24 (K : Params → KT) (w : World) (L : Lt) (τ : Nat → Nat) : Obj := ⟨(.type "cell"), none, (.cell (some (.str ⟨⟨[65, 66, 67, 68, 69, 70, 71, 72, 73, 74, 75, 76, 77, 78, 79, 80, 81, 82, 83, 84, 85, 86, 87, 88, 89, 90, 97, 98, 99, 100, 101, 102, 103, 104, 105, 106, 107, 108, 109, 110, 111, 112, 113, 114, 115, 116, 117, 118, 119, 120, 121, 122, 48, 49, 50, 51, 52, 53, 54, 55, 56, 57, 43, 47]⟩⟩ (τ 414)))), ⟨[]⟩⟩
noncomputable def reo25 (K : Params → KT) (w : World) (L : Lt) (τ : Nat → Nat) : Obj := ⟨(.type "list"), none, (.seq ⟨[]⟩ 0), ⟨[]⟩⟩
noncomputable def reo26 (K : Params → KT) (w : World) (L : Lt) (τ : Nat → Nat) : Obj := ⟨(.type "frame"), none, (.dict ⟨[entS w ⟨⟨[110]⟩⟩ (τ 425) (.int 3 (τ 379)), entS w ⟨⟨[119, 111, 114, 100, 115]⟩⟩ (τ 426) (.ref 171)]⟩ 2), ⟨[]⟩⟩
noncomputable def reo27 (K : Params → KT) (w : World) (L : Lt) (τ : Nat → Nat) : Obj := ⟨(.type "cell"), none, (.cell (some (.int 3 (τ 378)))), ⟨[]⟩⟩
noncomputable def reo28 (K : Params → KT) (w : World) (L : Lt) (τ : Nat → Nat) : Obj := ⟨(.type "cell"), none, (.cell (some (.int 1 (τ 431)))), ⟨[]⟩⟩
noncomputable def reo29 (K : Params → KT) (w : World) (L : Lt) (τ : Nat → Nat) : Obj := ⟨(.type "range_iterator"), none, (.fields ⟨[(.int 2 0), (.int 2 0), (.int 1 0)]⟩), ⟨[]⟩⟩
noncomputable def reo30 (K : Params → KT) (w : World) (L : Lt) (τ : Nat → Nat) : Obj := ⟨(.type "range_iterator"), none, (.fields ⟨[(.int 0 0), (.int 3 0), (.int 1 0)]⟩), ⟨[]⟩⟩
noncomputable def rel31 (K : Params → KT) (w : World) (L : Lt) (τ : Nat → Nat) : List (Addr × Obj) := [(137, reo23 K w L τ), (138, reo6 K w L τ), (139, reo24 K w L τ), (155, reo15 K w L τ), (165, reo25 K w L τ), (166, reo26 K w L τ), (167, reo27 K w L τ), (168, reo28 K w L τ), (169, reo7 K w L τ), (170, reo7 K w L τ), (171, reo25 K w L τ), (173, reo29 K w L τ), (175, reo30 K w L τ)]
noncomputable def reo32 (K : Params → KT) (w : World) (L : Lt) (τ : Nat → Nat) : Obj := ⟨(.type "cell"), none, (.cell (some (.int 2 (τ 463)))), ⟨[]⟩⟩
noncomputable def reo33 (K : Params → KT) (w : World) (L : Lt) (τ : Nat → Nat) : Obj := ⟨(.type "cell"), none, (.cell (some (.ref 204))), ⟨[]⟩⟩
noncomputable def reo34 (K : Params → KT) (w : World) (L : Lt) (τ : Nat → Nat) : Obj := ⟨(.type "list"), none, (.seq ⟨[(.ref 178), (.ref 191), (.ref 204)]⟩ 3), ⟨[]⟩⟩
noncomputable def reo35 (K : Params → KT) (w : World) (L : Lt) (τ : Nat → Nat) : Obj := ⟨(.type "list"), none, (.seq ⟨[(.int 0 (τ 447))]⟩ 1), ⟨[]⟩⟩
noncomputable def reo36 (K : Params → KT) (w : World) (L : Lt) (τ : Nat → Nat) : Obj := ⟨(.type "list"), none, (.seq ⟨[(.int 1 (τ 460))]⟩ 1), ⟨[]⟩⟩
noncomputable def reo37 (K : Params → KT) (w : World) (L : Lt) (τ : Nat → Nat) : Obj := ⟨(.type "list"), none, (.seq ⟨[(.int 2 (τ 473))]⟩ 1), ⟨[]⟩⟩
noncomputable def rel38 (K : Params → KT) (w : World) (L : Lt) (τ : Nat → Nat) : List (Addr × Obj) := [(137, reo23 K w L τ), (138, reo6 K w L τ), (139, reo24 K w L τ), (155, reo15 K w L τ), (165, reo25 K w L τ), (166, reo26 K w L τ), (167, reo27 K w L τ), (168, reo28 K w L τ), (169, reo32 K w L τ), (170, reo33 K w L τ), (171, reo34 K w L τ), (173, reo29 K w L τ), (178, reo35 K w L τ), (191, reo36 K w L τ), (204, reo37 K w L τ)]
noncomputable def re_lm19_0 (K : Params → KT) (w : World) (L : Lt) : Ctr := ⟨rex22 K w L, fun τ => dF (rex22 K w L τ).code, rel31 K w L, rec2 K w L, 176, fun τ => .next, rel38 K w L, rec2 K w L, 217⟩
noncomputable def re_lm19_0_h (K : Params → KT) (w : World) (L : Lt) (hL : LtOk L 3) : List (Nat × Act) := [(719, S), (706, .comp .range), (588, S), (575, .comp .range), (551, S), (469, S), (456, .comp .range), (338, S), (325, .comp .range), (301, S), (219, S), (206, .comp .range), (88, S), (75, .comp .range), (51, S)]
theorem re_lm19_0_t (b : Pk) (L : Lt) (hL : LtOk L 3) : FinT (b.V z0.1) (re_lm19_0 z0.1 b.w L) 767 (re_lm19_0_h z0.1 b.w L hL) ⟨none, [(437, .cnt)]⟩ := by intro R p i τ υ; kernel_rfl
theorem re_lm19_0_ok (b : Pk) (O : (b.V z0.1).Ok) (L : Lt) (hL : LtOk L 3) (hB : Bnd L) : (re_lm19_0 z0.1 b.w L).Ok (b.V z0.1) := okF O (re_lm19_0_t b L hL) (met .nil (by kernel_rfl))
noncomputable def rek39 (K : Params → KT) (w : World) (L : Lt) (τ : Nat → Nat) : Code := loopC (stmtAt (bodyK K w 130) [1, 0, 0]) (.ref 218) (ree19 K w L τ)
noncomputable def rex40 (K : Params → KT) (w : World) (L : Lt) (τ : Nat → Nat) : PySem.Ctx := ctxC (rek39 K w L τ) [((rek21 K w L τ), ⟨166, 21, 166, 37⟩), ((funcC (bodyK K w 130) (ree19 K w L τ)), ⟨164, 16, 164, 31⟩), ((funcC (bodyK K w 135) (ree0 K w L τ)), ⟨180, 16, 180, 33⟩), (callerC, ⟨0, 0, 0, 0⟩)]
noncomputable def reo41 (K : Params → KT) (w : World) (L : Lt) (τ : Nat → Nat) : Obj := ⟨(.type "cell"), none, (.cell (some (.int 3 (τ 479)))), ⟨[]⟩⟩
noncomputable def reo42 (K : Params → KT) (w : World) (L : Lt) (τ : Nat → Nat) : Obj := ⟨(.type "range_iterator"), none, (.fields ⟨[(.int 4 0), (.int 0 0), (.int 1 0)]⟩), ⟨[]⟩⟩
noncomputable def reo43 (K : Params → KT) (w : World) (L : Lt) (τ : Nat → Nat) : Obj := ⟨(.type "range_iterator"), none, (.fields ⟨[(.int 0 0), (.int 27 0), (.int 1 0)]⟩), ⟨[]⟩⟩
noncomputable def rel44 (K : Params → KT) (w : World) (L : Lt) (τ : Nat → Nat) : List (Addr × Obj) := [(137, reo23 K w L τ), (138, reo6 K w L τ), (139, reo24 K w L τ), (155, reo15 K w L τ), (165, reo25 K w L τ), (166, reo26 K w L τ), (167, reo27 K w L τ), (168, reo41 K w L τ), (169, reo32 K w L τ), (170, reo33 K w L τ), (171, reo34 K w L τ), (173, reo42 K w L τ), (178, reo35 K w L τ), (191, reo36 K w L τ), (204, reo37 K w L τ), (218, reo43 K w L τ)]
noncomputable def reo45 (K : Params → KT) (w : World) (L : Lt) (τ : Nat → Nat) : Obj := ⟨(.type "cell"), none, (.cell (some (.int 5 (τ 650)))), ⟨[]⟩⟩
noncomputable def reo46 (K : Params → KT) (w : World) (L : Lt) (τ : Nat → Nat) : Obj := ⟨(.type "cell"), none, (.cell (some (.ref 336))), ⟨[]⟩⟩
noncomputable def reo47 (K : Params → KT) (w : World) (L : Lt) (τ : Nat → Nat) : Obj := ⟨(.type "list"), none, (.seq ⟨[(.ref 178), (.ref 191), (.ref 204), (.ref 244), (.ref 267), (.ref 313), (.ref 336)]⟩ 7), ⟨[]⟩⟩
noncomputable def reo48 (K : Params → KT) (w : World) (L : Lt) (τ : Nat → Nat) : Obj := ⟨(.type "range_iterator"), none, (.fields ⟨[(.int 6 0), (.int 21 0), (.int 1 0)]⟩), ⟨[]⟩⟩
noncomputable def reo49 (K : Params → KT) (w : World) (L : Lt) (τ : Nat → Nat) : Obj := ⟨(.type "list"), none, (.seq ⟨[(.int 0 (τ 528)), (.int 0 (τ 536)), (.int 1 (τ 544))]⟩ 3), ⟨[]⟩⟩
noncomputable def reo50 (K : Params → KT) (w : World) (L : Lt) (τ : Nat → Nat) : Obj := ⟨(.type "list"), none, (.seq ⟨[(.int 0 (τ 561)), (.int 0 (τ 569)), (.int 2 (τ 577))]⟩ 3), ⟨[]⟩⟩
noncomputable def reo51 (K : Params → KT) (w : World) (L : Lt) (τ : Nat → Nat) : Obj := ⟨(.type "list"), none, (.seq ⟨[(.int 0 (τ 627)), (.int 1 (τ 635)), (.int 1 (τ 643))]⟩ 3), ⟨[]⟩⟩
noncomputable def reo52 (K : Params → KT) (w : World) (L : Lt) (τ : Nat → Nat) : Obj := ⟨(.type "list"), none, (.seq ⟨[(.int 0 (τ 660)), (.int 1 (τ 668)), (.int 2 (τ 676))]⟩ 3), ⟨[]⟩⟩
noncomputable def rel53 (K : Params → KT) (w : World) (L : Lt) (τ : Nat → Nat) : List (Addr × Obj) := [(137, reo23 K w L τ), (138, reo6 K w L τ), (139, reo24 K w L τ), (155, reo15 K w L τ), (165, reo25 K w L τ), (166, reo26 K w L τ), (167, reo27 K w L τ), (168, reo41 K w L τ), (169, reo45 K w L τ), (170, reo46 K w L τ), (171, reo47 K w L τ), (173, reo42 K w L τ), (178, reo35 K w L τ), (191, reo36 K w L τ), (204, reo37 K w L τ), (218, reo48 K w L τ), (244, reo49 K w L τ), (267, reo50 K w L τ), (313, reo51 K w L τ), (336, reo52 K w L τ)]
noncomputable def reo54 (K : Params → KT) (w : World) (L : Lt) (τ : Nat → Nat) : Obj := ⟨(.type "cell"), none, (.cell (some (.int 11 (τ 848)))), ⟨[]⟩⟩
noncomputable def reo55 (K : Params → KT) (w : World) (L : Lt) (τ : Nat → Nat) : Obj := ⟨(.type "cell"), none, (.cell (some (.ref 474))), ⟨[]⟩⟩
noncomputable def reo56 (K : Params → KT) (w : World) (L : Lt) (τ : Nat → Nat) : Obj := ⟨(.type "list"), none, (.seq ⟨[(.ref 178), (.ref 191), (.ref 204), (.ref 244), (.ref 267), (.ref 313), (.ref 336), (.ref 382), (.ref 405)]⟩ 9), ⟨[]⟩⟩
noncomputable def reo57 (K : Params → KT) (w : World) (L : Lt) (τ : Nat → Nat) : Obj := ⟨(.type "range_iterator"), none, (.fields ⟨[(.int 12 0), (.int 15 0), (.int 1 0)]⟩), ⟨[]⟩⟩
noncomputable def reo58 (K : Params → KT) (w : World) (L : Lt) (τ : Nat → Nat) : Obj := ⟨(.type "list"), none, (.seq ⟨[(.int 0 (τ 726)), (.int 2 (τ 734)), (.int 1 (τ 742))]⟩ 3), ⟨[]⟩⟩
noncomputable def reo59 (K : Params → KT) (w : World) (L : Lt) (τ : Nat → Nat) : Obj := ⟨(.type "list"), none, (.seq ⟨[(.int 0 (τ 759)), (.int 2 (τ 767)), (.int 2 (τ 775))]⟩ 3), ⟨[]⟩⟩
noncomputable def rel60 (K : Params → KT) (w : World) (L : Lt) (τ : Nat → Nat) : List (Addr × Obj) := [(137, reo23 K w L τ), (138, reo6 K w L τ), (139, reo24 K w L τ), (155, reo15 K w L τ), (165, reo25 K w L τ), (166, reo26 K w L τ), (167, reo27 K w L τ), (168, reo41 K w L τ), (169, reo54 K w L τ), (170, reo55 K w L τ), (171, reo56 K w L τ), (173, reo42 K w L τ), (178, reo35 K w L τ), (191, reo36 K w L τ), (204, reo37 K w L τ), (218, reo57 K w L τ), (244, reo49 K w L τ), (267, reo50 K w L τ), (313, reo51 K w L τ), (336, reo52 K w L τ), (382, reo58 K w L τ), (405, reo59 K w L τ)]
noncomputable def reo61 (K : Params → KT) (w : World) (L : Lt) (τ : Nat → Nat) : Obj := ⟨(.type "cell"), none, (.cell (some (.int 17 (τ 1046)))), ⟨[]⟩⟩
noncomputable def reo62 (K : Params → KT) (w : World) (L : Lt) (τ : Nat → Nat) : Obj := ⟨(.type "cell"), none, (.cell (some (.ref 612))), ⟨[]⟩⟩
noncomputable def reo63 (K : Params → KT) (w : World) (L : Lt) (τ : Nat → Nat) : Obj := ⟨(.type "list"), none, (.seq ⟨[(.ref 178), (.ref 191), (.ref 204), (.ref 244), (.ref 267), (.ref 313), (.ref 336), (.ref 382), (.ref 405), (.ref 543), (.ref 612)]⟩ 11), ⟨[]⟩⟩
noncomputable def reo64 (K : Params → KT) (w : World) (L : Lt) (τ : Nat → Nat) : Obj := ⟨(.type "range_iterator"), none, (.fields ⟨[(.int 18 0), (.int 9 0), (.int 1 0)]⟩), ⟨[]⟩⟩
noncomputable def reo65 (K : Params → KT) (w : World) (L : Lt) (τ : Nat → Nat) : Obj := ⟨(.type "list"), none, (.seq ⟨[(.int 1 (τ 957)), (.int 1 (τ 965)), (.int 2 (τ 973))]⟩ 3), ⟨[]⟩⟩
noncomputable def reo66 (K : Params → KT) (w : World) (L : Lt) (τ : Nat → Nat) : Obj := ⟨(.type "list"), none, (.seq ⟨[(.int 1 (τ 1056)), (.int 2 (τ 1064)), (.int 2 (τ 1072))]⟩ 3), ⟨[]⟩⟩
noncomputable def rel67 (K : Params → KT) (w : World) (L : Lt) (τ : Nat → Nat) : List (Addr × Obj) := [(137, reo23 K w L τ), (138, reo6 K w L τ), (139, reo24 K w L τ), (155, reo15 K w L τ), (165, reo25 K w L τ), (166, reo26 K w L τ), (167, reo27 K w L τ), (168, reo41 K w L τ), (169, reo61 K w L τ), (170, reo62 K w L τ), (171, reo63 K w L τ), (173, reo42 K w L τ), (178, reo35 K w L τ), (191, reo36 K w L τ), (204, reo37 K w L τ), (218, reo64 K w L τ), (244, reo49 K w L τ), (267, reo50 K w L τ), (313, reo51 K w L τ), (336, reo52 K w L τ), (382, reo58 K w L τ), (405, reo59 K w L τ), (543, reo65 K w L τ), (612, reo66 K w L τ)]
noncomputable def reo68 (K : Params → KT) (w : World) (L : Lt) (τ : Nat → Nat) : Obj := ⟨(.type "cell"), none, (.cell (some (.int 23 (τ 1244)))), ⟨[]⟩⟩
noncomputable def reo69 (K : Params → KT) (w : World) (L : Lt) (τ : Nat → Nat) : Obj := ⟨(.type "cell"), none, (.cell (some (.ref 750))), ⟨[]⟩⟩
noncomputable def reo70 (K : Params → KT) (w : World) (L : Lt) (τ : Nat → Nat) : Obj := ⟨(.type "range_iterator"), none, (.fields ⟨[(.int 24 0), (.int 3 0), (.int 1 0)]⟩), ⟨[]⟩⟩
noncomputable def rel71 (K : Params → KT) (w : World) (L : Lt) (τ : Nat → Nat) : List (Addr × Obj) := [(137, reo23 K w L τ), (138, reo6 K w L τ), (139, reo24 K w L τ), (155, reo15 K w L τ), (165, reo25 K w L τ), (166, reo26 K w L τ), (167, reo27 K w L τ), (168, reo41 K w L τ), (169, reo68 K w L τ), (170, reo69 K w L τ), (171, reo63 K w L τ), (173, reo42 K w L τ), (178, reo35 K w L τ), (191, reo36 K w L τ), (204, reo37 K w L τ), (218, reo70 K w L τ), (244, reo49 K w L τ), (267, reo50 K w L τ), (313, reo51 K w L τ), (336, reo52 K w L τ), (382, reo58 K w L τ), (405, reo59 K w L τ), (543, reo65 K w L τ), (612, reo66 K w L τ)]
noncomputable def rel72 (K : Params → KT) (w : World) (L : Lt) (τ : Nat → Nat) : List (Addr × Obj) := [(137, reo23 K w L τ), (138, reo6 K w L τ), (139, reo24 K w L τ), (155, reo15 K w L τ), (165, reo25 K w L τ), (166, reo26 K w L τ), (171, reo63 K w L τ), (173, reo42 K w L τ), (178, reo35 K w L τ), (191, reo36 K w L τ), (204, reo37 K w L τ), (244, reo49 K w L τ), (267, reo50 K w L τ), (313, reo51 K w L τ), (336, reo52 K w L τ), (382, reo58 K w L τ), (405, reo59 K w L τ), (543, reo65 K w L τ), (612, reo66 K w L τ)]
noncomputable def re_lm39_4 (K : Params → KT) (w : World) (L : Lt) : Ctr := ⟨rex40 K w L, fun τ => dF (rex40 K w L τ).code, rel71 K w L, rec2 K w L, 771, fun τ => .next, rel72 K w L, rec2 K w L, 842⟩
noncomputable def re_lm39_4_h (K : Params → KT) (w : World) (L : Lt) (hL : LtOk L 3) : List (Nat × Act) := [(1725, S), (1712, .comp .range), (1464, S), (1451, .comp .range), (1366, S), (1360, Q), (1357, S), (1351, S), (1251, S), (1243, S), (1237, S), (1194, S), (1136, S), (1123, .comp .range), (875, S), (862, .comp .range), (777, S), (771, Q), (768, S), (762, S), (662, S), (654, S), (648, S), (605, S), (547, S), (534, .comp .range), (286, S), (273, .comp .range), (188, S), (182, Q), (181, Q), (180, Q), (79, S), (73, Q), (72, Q), (71, Q), (27, S)]
theorem re_lm39_4_t (b : Pk) (L : Lt) (hL : LtOk L 3) : FinT (b.V z0.1) (re_lm39_4 z0.1 b.w L) 1773 (re_lm39_4_h z0.1 b.w L hL) ⟨none, [(1277, .cnt)]⟩ := by intro R p i τ υ; kernel_rfl
theorem re_lm39_4_ok (b : Pk) (O : (b.V z0.1).Ok) (L : Lt) (hL : LtOk L 3) (hB : Bnd L) : (re_lm39_4 z0.1 b.w L).Ok (b.V z0.1) := okF O (re_lm39_4_t b L hL) (met .nil (by kernel_rfl))
noncomputable def re_lm39_3 (K : Params → KT) (w : World) (L : Lt) : Ctr := ⟨rex40 K w L, fun τ => dF (rex40 K w L τ).code, rel67 K w L, rec2 K w L, 633, fun τ => .next, rel72 K w L, rec2 K w L, 842⟩
noncomputable def re_lm39_3_h (K : Params → KT) (w : World) (L : Lt) (hL : LtOk L 3) : List (Nat × Act) := [(3466, S), (3453, .comp .range), (3205, S), (3192, .comp .range), (3107, S), (3099, S), (3093, S), (2993, S), (2985, S), (2979, S), (2936, S), (2878, S), (2865, .comp .range), (2617, S), (2604, .comp .range), (2519, S), (2511, S), (2505, S), (2405, S), (2397, S), (2391, S), (2348, S), (2290, S), (2277, .comp .range), (2029, S), (2016, .comp .range), (1931, S), (1923, S), (1917, S), (1817, S), (1811, Q), (1808, S), (1802, S), (1768, S), (1710, S), (1697, .comp .range), (1449, S), (1436, .comp .range), (1351, S), (1343, S), (1337, S), (1237, S), (1229, S), (1223, S), (1180, S), (1122, S), (1109, .comp .range), (861, S), (848, .comp .range), (763, S), (755, S), (749, S), (649, S), (641, S), (635, S), (592, S), (534, S), (521, .comp .range), (273, S), (260, .comp .range), (175, S), (167, S), (161, S), (61, S), (55, Q), (52, S), (46, S), (12, S), (1, .meet)]
theorem re_lm39_3_t (b : Pk) (L : Lt) (hL : LtOk L 3) : NextT (b.V z0.1) (re_lm39_3 z0.1 b.w L) (re_lm39_4 z0.1 b.w L) 3514 (re_lm39_3_h z0.1 b.w L hL) ⟨none, [(1079, .cnt)]⟩ := by intro R p i τ υ; kernel_rfl
theorem re_lm39_3_ok (b : Pk) (O : (b.V z0.1).Ok) (L : Lt) (hL : LtOk L 3) (hB : Bnd L) : (re_lm39_3 z0.1 b.w L).Ok (b.V z0.1) := okN O (re_lm39_3_t b L hL) (re_lm39_4_ok b O L hL hB) ⟨rfl, rfl, rfl, rfl⟩ (met .nil (by kernel_rfl))
noncomputable def re_lm39_2 (K : Params → KT) (w : World) (L : Lt) : Ctr := ⟨rex40 K w L, fun τ => dF (rex40 K w L τ).code, rel60 K w L, rec2 K w L, 495, fun τ => .next, rel72 K w L, rec2 K w L, 842⟩
noncomputable def re_lm39_2_h (K : Params → KT) (w : World) (L : Lt) (hL : LtOk L 3) : List (Nat × Act) := [(3469, S), (3456, .comp .range), (3208, S), (3195, .comp .range), (3110, S), (3104, Q), (3101, S), (3095, S), (2995, S), (2987, S), (2981, S), (2938, S), (2880, S), (2867, .comp .range), (2619, S), (2606, .comp .range), (2521, S), (2515, Q), (2514, Q), (2513, Q), (2412, S), (2406, Q), (2405, Q), (2404, Q), (2360, S), (2302, S), (2289, .comp .range), (2041, S), (2028, .comp .range), (1943, S), (1937, Q), (1934, S), (1928, S), (1837, S), (1829, S), (1823, S), (1789, S), (1707, S), (1694, .comp .range), (1446, S), (1433, .comp .range), (1348, S), (1340, S), (1334, S), (1243, S), (1235, S), (1229, S), (1186, S), (1128, S), (1115, .comp .range), (867, S), (854, .comp .range), (769, S), (761, S), (755, S), (664, S), (658, Q), (655, S), (649, S), (606, S), (548, S), (535, .comp .range), (287, S), (274, .comp .range), (189, S), (181, S), (175, S), (84, S), (76, S), (70, S), (36, S), (1, .meet)]
theorem re_lm39_2_t (b : Pk) (L : Lt) (hL : LtOk L 3) : NextT (b.V z0.1) (re_lm39_2 z0.1 b.w L) (re_lm39_3 z0.1 b.w L) 3517 (re_lm39_2_h z0.1 b.w L hL) ⟨none, [(881, .cnt)]⟩ := by intro R p i τ υ; kernel_rfl
theorem re_lm39_2_ok (b : Pk) (O : (b.V z0.1).Ok) (L : Lt) (hL : LtOk L 3) (hB : Bnd L) : (re_lm39_2 z0.1 b.w L).Ok (b.V z0.1) := okN O (re_lm39_2_t b L hL) (re_lm39_3_ok b O L hL hB) ⟨rfl, rfl, rfl, rfl⟩ (met .nil (by kernel_rfl))
noncomputable def re_lm39_1 (K : Params → KT) (w : World) (L : Lt) : Ctr := ⟨rex40 K w L, fun τ => dF (rex40 K w L τ).code, rel53 K w L, rec2 K w L, 357, fun τ => .next, rel72 K w L, rec2 K w L, 842⟩
noncomputable def re_lm39_1_h (K : Params → KT) (w : World) (L : Lt) (hL : LtOk L 3) : List (Nat × Act) := [(3469, S), (3456, .comp .range), (3208, S), (3195, .comp .range), (3110, S), (3102, S), (3096, S), (3005, S), (2999, Q), (2996, S), (2990, S), (2947, S), (2889, S), (2876, .comp .range), (2628, S), (2615, .comp .range), (2530, S), (2522, S), (2516, S), (2425, S), (2417, S), (2411, S), (2377, S), (2295, S), (2282, .comp .range), (2034, S), (2021, .comp .range), (1936, S), (1928, S), (1922, S), (1831, S), (1823, S), (1817, S), (1783, S), (1701, S), (1688, .comp .range), (1440, S), (1427, .comp .range), (1342, S), (1334, S), (1328, S), (1228, S), (1220, S), (1214, S), (1171, S), (1113, S), (1100, .comp .range), (852, S), (839, .comp .range), (754, S), (746, S), (740, S), (640, S), (634, Q), (631, S), (625, S), (591, S), (533, S), (520, .comp .range), (272, S), (259, .comp .range), (174, S), (166, S), (160, S), (60, S), (52, S), (46, S), (12, S), (1, .meet)]
theorem re_lm39_1_t (b : Pk) (L : Lt) (hL : LtOk L 3) : NextT (b.V z0.1) (re_lm39_1 z0.1 b.w L) (re_lm39_2 z0.1 b.w L) 3517 (re_lm39_1_h z0.1 b.w L hL) ⟨none, [(683, .cnt)]⟩ := by intro R p i τ υ; kernel_rfl
theorem re_lm39_1_ok (b : Pk) (O : (b.V z0.1).Ok) (L : Lt) (hL : LtOk L 3) (hB : Bnd L) : (re_lm39_1 z0.1 b.w L).Ok (b.V z0.1) := okN O (re_lm39_1_t b L hL) (re_lm39_2_ok b O L hL hB) ⟨rfl, rfl, rfl, rfl⟩ (met .nil (by kernel_rfl))
noncomputable def re_lm39_0 (K : Params → KT) (w : World) (L : Lt) : Ctr := ⟨rex40 K w L, fun τ => dF (rex40 K w L τ).code, rel44 K w L, rec2 K w L, 219, fun τ => .next, rel72 K w L, rec2 K w L, 842⟩
noncomputable def re_lm39_0_h (K : Params → KT) (w : World) (L : Lt) (hL : LtOk L 3) : List (Nat × Act) := [(3490, S), (3477, .comp .range), (3229, S), (3216, .comp .range), (3131, S), (3125, Q), (3124, Q), (3123, Q), (3022, S), (3016, Q), (3015, Q), (3014, Q), (2970, S), (2912, S), (2899, .comp .range), (2651, S), (2638, .comp .range), (2553, S), (2547, Q), (2544, S), (2538, S), (2447, S), (2439, S), (2433, S), (2399, S), (2317, S), (2304, .comp .range), (2056, S), (2043, .comp .range), (1958, S), (1952, Q), (1949, S), (1943, S), (1852, S), (1844, S), (1838, S), (1804, S), (1722, S), (1709, .comp .range), (1461, S), (1448, .comp .range), (1363, S), (1355, S), (1349, S), (1258, S), (1252, Q), (1249, S), (1243, S), (1200, S), (1142, S), (1129, .comp .range), (881, S), (868, .comp .range), (783, S), (775, S), (769, S), (678, S), (670, S), (664, S), (630, S), (548, S), (535, .comp .range), (287, S), (274, .comp .range), (189, S), (181, S), (175, S), (84, S), (76, S), (70, S), (36, S), (1, .meet)]
theorem re_lm39_0_t (b : Pk) (L : Lt) (hL : LtOk L 3) : NextT (b.V z0.1) (re_lm39_0 z0.1 b.w L) (re_lm39_1 z0.1 b.w L) 3538 (re_lm39_0_h z0.1 b.w L hL) ⟨none, [(485, .cnt)]⟩ := by intro R p i τ υ; kernel_rfl
theorem re_lm39_0_ok (b : Pk) (O : (b.V z0.1).Ok) (L : Lt) (hL : LtOk L 3) (hB : Bnd L) : (re_lm39_0 z0.1 b.w L).Ok (b.V z0.1) := okN O (re_lm39_0_t b L hL) (re_lm39_1_ok b O L hL hB) ⟨rfl, rfl, rfl, rfl⟩ (met .nil (by kernel_rfl))
noncomputable def rek73 (K : Params → KT) (w : World) (L : Lt) (τ : Nat → Nat) : Code := loopC (stmtAt (bodyK K w 135) [7]) (.ref 848) (ree0 K w L τ)
noncomputable def rex74 (K : Params → KT) (w : World) (L : Lt) (τ : Nat → Nat) : PySem.Ctx := ctxC (rek73 K w L τ) [((funcC (bodyK K w 135) (ree0 K w L τ)), ⟨180, 16, 180, 33⟩), (callerC, ⟨0, 0, 0, 0⟩)]
noncomputable def reo75 (K : Params → KT) (w : World) (L : Lt) (τ : Nat → Nat) : Obj := ⟨(.type "list"), none, (.seq ⟨[(.ref 178), (.ref 244), (.ref 267), (.ref 313), (.ref 336), (.ref 382), (.ref 405), (.ref 191), (.ref 543), (.ref 612), (.ref 204)]⟩ 2), ⟨[]⟩⟩
noncomputable def reo76 (K : Params → KT) (w : World) (L : Lt) (τ : Nat → Nat) : Obj := ⟨(.type "list_iterator"), none, (.fields ⟨[(.ref 845), (.int 0 0)]⟩), ⟨[]⟩⟩
noncomputable def rel77 (K : Params → KT) (w : World) (L : Lt) (τ : Nat → Nat) : List (Addr × Obj) := [(137, reo23 K w L τ), (138, reo6 K w L τ), (139, reo24 K w L τ), (155, reo15 K w L τ), (165, reo25 K w L τ), (178, reo35 K w L τ), (191, reo36 K w L τ), (204, reo37 K w L τ), (244, reo49 K w L τ), (267, reo50 K w L τ), (313, reo51 K w L τ), (336, reo52 K w L τ), (382, reo58 K w L τ), (405, reo59 K w L τ), (543, reo65 K w L τ), (612, reo66 K w L τ), (845, reo75 K w L τ), (848, reo76 K w L τ)]
noncomputable def reo78 (K : Params → KT) (w : World) (L : Lt) (τ : Nat → Nat) : Obj := ⟨(.type "frame"), none, (.dict ⟨[entS w ⟨⟨[115, 99, 114, 105, 112, 116]⟩⟩ (τ 361) (.ref 136), entS w ⟨⟨[104, 101, 97, 100]⟩⟩ (τ 369) (.int L.h (τ 368)), entS w ⟨⟨[107]⟩⟩ (τ 382) (.int 3 (τ 378)), entS w ⟨⟨[110]⟩⟩ (τ 383) (.int 3 (τ 379)), entS w ⟨⟨[114]⟩⟩ (τ 393) (.int 2 (τ 403)), entS w ⟨⟨[108, 101, 116, 116, 101, 114, 115]⟩⟩ (τ 423) (.str (rel L [0, 1, 2]) (τ 422)), entS w ⟨⟨[114, 111, 119]⟩⟩ (τ 424) (.ref 165), entS w ⟨⟨[119, 111, 114, 100]⟩⟩ (τ 1376) (.ref 204)]⟩ 8), ⟨[]⟩⟩
noncomputable def reo79 (K : Params → KT) (w : World) (L : Lt) (τ : Nat → Nat) : Obj := ⟨(.type "list"), none, (.seq ⟨[(.int (L.v 0) (τ 389)), (.int (L.v 0) (τ 389)), (.int (L.v 0) (τ 389)), (.int (L.v 1) (τ 402)), (.int (L.v 0) (τ 389)), (.int (L.v 0) (τ 389)), (.int (L.v 2) (τ 413)), (.int (L.v 0) (τ 389)), (.int (L.v 1) (τ 402)), (.int (L.v 1) (τ 402)), (.int (L.v 0) (τ 389)), (.int (L.v 1) (τ 402)), (.int (L.v 2) (τ 413)), (.int (L.v 0) (τ 389)), (.int (L.v 2) (τ 413)), (.int (L.v 1) (τ 402)), (.int (L.v 0) (τ 389)), (.int (L.v 2) (τ 413)), (.int (L.v 2) (τ 413)), (.int (L.v 1) (τ 402)), (.int (L.v 1) (τ 402)), (.int (L.v 1) (τ 402)), (.int (L.v 2) (τ 413)), (.int (L.v 1) (τ 402)), (.int (L.v 2) (τ 413)), (.int (L.v 2) (τ 413)), (.int (L.v 2) (τ 413))]⟩ 11), ⟨[]⟩⟩
noncomputable def rel80 (K : Params → KT) (w : World) (L : Lt) (τ : Nat → Nat) : List (Addr × Obj) := [(137, reo78 K w L τ), (139, reo24 K w L τ), (165, reo79 K w L τ)]
noncomputable def re_row73_0 (K : Params → KT) (w : World) (L : Lt) : Ctr := ⟨rex74 K w L, fun τ => dF (rex74 K w L τ).code, rel77 K w L, rec2 K w L, 849, fun τ => .next, rel80 K w L, rec2 K w L, 906⟩
noncomputable def re_row73_0_h (K : Params → KT) (w : World) (L : Lt) (hL : LtOk L 3) : List (Nat × Act) := [(1948, S), (1938, .comp .list), (1827, S), (1817, .comp .list), (1628, S), (1618, .comp .list), (1429, S), (1419, .comp .list), (1230, S), (1220, .comp .list), (1031, S), (1021, .comp .list), (832, S), (822, .comp .list), (633, S), (623, .comp .list), (512, S), (502, .comp .list), (313, S), (303, .comp .list), (114, S), (104, .comp .list)]
theorem re_row73_0_t (b : Pk) (L : Lt) (hL : LtOk L 3) : FinT (b.V z0.1) (re_row73_0 z0.1 b.w L) 1974 (re_row73_0_h z0.1 b.w L hL) ⟨none, [(1376, .cnt)]⟩ := by intro R p i τ υ; kernel_rfl
theorem re_row73_0_ok (b : Pk) (O : (b.V z0.1).Ok) (L : Lt) (hL : LtOk L 3) (hB : Bnd L) : (re_row73_0 z0.1 b.w L).Ok (b.V z0.1) := okF O (re_row73_0_t b L hL) (met .nil (by kernel_rfl))
noncomputable def ree81 (K : Params → KT) (w : World) (L : Lt) (τ : Nat → Nat) : Env := ⟨(fdK K w 125).scope, 911, 3, [(⟨⟨[98, 101, 104, 105, 110, 100]⟩⟩, 913), (⟨⟨[116, 101, 120, 116]⟩⟩, 912)], ⟨⟨[95, 108, 97, 119, 95, 103, 114, 111, 119, 110, 46, 60, 108, 111, 99, 97, 108, 115, 62, 46]⟩⟩, some 125, (.ref 124), some 911, 0⟩
noncomputable def rek82 (K : Params → KT) (w : World) (L : Lt) (τ : Nat → Nat) : Code := loopC (stmtAt (bodyK K w 125) [1]) .none (ree81 K w L τ)
noncomputable def rex83 (K : Params → KT) (w : World) (L : Lt) (τ : Nat → Nat) : PySem.Ctx := ctxC (rek82 K w L τ) [((funcC (bodyK K w 125) (ree81 K w L τ)), ⟨155, 4, 160, 24⟩), ((funcC (bodyK K w 135) (ree0 K w L τ)), ⟨183, 11, 183, 33⟩), (callerC, ⟨0, 0, 0, 0⟩)]
noncomputable def reo84 (K : Params → KT) (w : World) (L : Lt) (τ : Nat → Nat) : Obj := ⟨(.type "frame"), none, (.dict ⟨[entS w ⟨⟨[115, 99, 114, 105, 112, 116]⟩⟩ (τ 361) (.ref 136), entS w ⟨⟨[104, 101, 97, 100]⟩⟩ (τ 369) (.int L.h (τ 368)), entS w ⟨⟨[107]⟩⟩ (τ 382) (.int 3 (τ 378)), entS w ⟨⟨[110]⟩⟩ (τ 383) (.int 3 (τ 379)), entS w ⟨⟨[114]⟩⟩ (τ 393) (.int 2 (τ 403)), entS w ⟨⟨[108, 101, 116, 116, 101, 114, 115]⟩⟩ (τ 423) (.str (rel L [0, 1, 2]) (τ 422)), entS w ⟨⟨[114, 111, 119]⟩⟩ (τ 424) (.ref 165), entS w ⟨⟨[119, 111, 114, 100]⟩⟩ (τ 1376) (.ref 204), entS w ⟨⟨[115, 105, 103, 110, 115]⟩⟩ (τ 1481) (.str (rel L [0, 0, 0, 1, 0, 0, 2, 0, 1, 1, 0, 1, 2, 0, 2, 1, 0, 2, 2, 1, 1, 1, 2, 1, 2, 2, 2]) (τ 1480))]⟩ 9), ⟨[]⟩⟩
noncomputable def reo85 (K : Params → KT) (w : World) (L : Lt) (τ : Nat → Nat) : Obj := ⟨(.type "frame"), none, (.dict ⟨[entS w ⟨⟨[108, 101, 116, 116, 101, 114, 115]⟩⟩ (τ 1482) (.str (rel L [0, 1, 2]) (τ 422)), entS w ⟨⟨[110]⟩⟩ (τ 1483) (.int 3 (τ 379))]⟩ 2), ⟨[]⟩⟩
noncomputable def reo86 (K : Params → KT) (w : World) (L : Lt) (τ : Nat → Nat) : Obj := ⟨(.type "cell"), none, (.cell (some (.str (rel L [2, 2, 2]) (τ 1487)))), ⟨[]⟩⟩
noncomputable def rel87 (K : Params → KT) (w : World) (L : Lt) (τ : Nat → Nat) : List (Addr × Obj) := [(137, reo84 K w L τ), (165, reo79 K w L τ), (911, reo85 K w L τ), (912, reo86 K w L τ), (913, reo7 K w L τ)]
noncomputable def reo88 (K : Params → KT) (w : World) (L : Lt) (τ : Nat → Nat) : Obj := ⟨(.type "frame"), none, (.dict ⟨[entS w ⟨⟨[115, 99, 114, 105, 112, 116]⟩⟩ (τ 361) (.ref 136), entS w ⟨⟨[104, 101, 97, 100]⟩⟩ (τ 369) (.int L.h (τ 368)), entS w ⟨⟨[107]⟩⟩ (τ 382) (.int 3 (τ 378)), entS w ⟨⟨[110]⟩⟩ (τ 383) (.int 3 (τ 379)), entS w ⟨⟨[114]⟩⟩ (τ 393) (.int 2 (τ 403)), entS w ⟨⟨[108, 101, 116, 116, 101, 114, 115]⟩⟩ (τ 423) (.str (rel L [0, 1, 2]) (τ 422)), entS w ⟨⟨[114, 111, 119]⟩⟩ (τ 424) (.ref 165), entS w ⟨⟨[119, 111, 114, 100]⟩⟩ (τ 1376) (.ref 204), entS w ⟨⟨[115, 105, 103, 110, 115]⟩⟩ (τ 1481) (.str (rel L [0, 0, 0, 1, 0, 0, 2, 0, 1, 1, 0, 1, 2, 0, 2, 1, 0, 2, 2, 1, 1, 1, 2, 1, 2, 2, 2]) (τ 1480))]⟩ 9), ⟨[(some (.ref 134)), (some (.ref 3)), none, (some .notImplemented), none, (some (.ref 135)), (some (.ref 0)), (some (.ref 139)), (some (.ref 138))]⟩⟩
noncomputable def reo89 (K : Params → KT) (w : World) (L : Lt) (τ : Nat → Nat) : Obj := ⟨(.type "frame"), none, (.dict ⟨[entS w ⟨⟨[108, 101, 116, 116, 101, 114, 115]⟩⟩ (τ 1482) (.str (rel L [0, 1, 2]) (τ 422)), entS w ⟨⟨[110]⟩⟩ (τ 1483) (.int 3 (τ 379)), entS w ⟨⟨[102, 114, 101, 115, 104]⟩⟩ (τ 1584) (.ref 1014)]⟩ 3), ⟨[(some (.ref 124)), (some (.ref 3)), none, (some (.ref 137)), none, (some (.ref 125)), (some (.ref 0)), (some (.ref 913)), (some (.ref 912))]⟩⟩
noncomputable def reo90 (K : Params → KT) (w : World) (L : Lt) (τ : Nat → Nat) : Obj := ⟨(.type "cell"), none, (.cell (some (.str (rel L [2, 2, 2, 0, 0, 0]) (τ 1790)))), ⟨[]⟩⟩
noncomputable def reo91 (K : Params → KT) (w : World) (L : Lt) (τ : Nat → Nat) : Obj := ⟨(.type "cell"), none, (.cell (some (.str (rel L [0, 0]) (τ 1697)))), ⟨[]⟩⟩
noncomputable def reo92 (K : Params → KT) (w : World) (L : Lt) (τ : Nat → Nat) : Obj := ⟨(.type "code"), none, .fields ⟨[(.str ⟨⟨[99, 111, 111, 114, 100, 95, 114, 101, 112, 114]⟩⟩ (τ 1518)), (.str ⟨⟨[115, 117, 102, 102, 105, 120, 101, 100, 95, 101, 114, 114, 46, 60, 108, 111, 99, 97, 108, 115, 62, 46, 99, 111, 111, 114, 100, 95, 114, 101, 112, 114]⟩⟩ (τ 1519)), (.str ⟨⟨[47, 99, 108, 97, 105, 109, 47, 99, 117, 116, 46, 112, 121]⟩⟩ (τ 1520)), (.int 21 0), (.int 2 0), (.int 0 0), (.int 0 0), (.int 19 0), (.ref 925), (.bool true), (.int 181 0), (.ref 926), .none, (.ref 927), (.ref 928), (.ref 929), (.int (τ 1525 : Nat) 0), (.int 21 0), (.str ⟨⟨[47, 99, 108, 97, 105, 109, 47, 99, 117, 116, 46, 112, 121]⟩⟩ (τ 1526))]⟩, ⟨[]⟩⟩
noncomputable def rel93 (K : Params → KT) (w : World) (L : Lt) (τ : Nat → Nat) : List (Addr × Obj) := [(137, reo88 K w L τ), (165, reo79 K w L τ), (911, reo89 K w L τ), (912, reo90 K w L τ), (913, reo91 K w L τ), (930, reo92 K w L τ)]
noncomputable def rec94 (K : Params → KT) (w : World) (L : Lt) (τ : Nat → Nat) : Ch := [(43, ⟨[(.int 21 0), (.int 4 0), (.ref 930)]⟩)]
noncomputable def reo95 (K : Params → KT) (w : World) (L : Lt) (τ : Nat → Nat) : Obj := ⟨(.type "frame"), none, (.dict ⟨[entS w ⟨⟨[108, 101, 116, 116, 101, 114, 115]⟩⟩ (τ 1482) (.str (rel L [0, 1, 2]) (τ 422)), entS w ⟨⟨[110]⟩⟩ (τ 1483) (.int 3 (τ 379)), entS w ⟨⟨[102, 114, 101, 115, 104]⟩⟩ (τ 1584) (.ref 1155)]⟩ 3), ⟨[(some (.ref 124)), (some (.ref 3)), none, (some (.ref 137)), none, (some (.ref 125)), (some (.ref 0)), (some (.ref 913)), (some (.ref 912))]⟩⟩
noncomputable def reo96 (K : Params → KT) (w : World) (L : Lt) (τ : Nat → Nat) : Obj := ⟨(.type "cell"), none, (.cell (some (.str (rel L [2, 2, 2, 0, 0, 0, 1, 0, 0]) (τ 2091)))), ⟨[]⟩⟩
noncomputable def reo97 (K : Params → KT) (w : World) (L : Lt) (τ : Nat → Nat) : Obj := ⟨(.type "cell"), none, (.cell (some (.str (rel L [1, 0]) (τ 1998)))), ⟨[]⟩⟩
noncomputable def rel98 (K : Params → KT) (w : World) (L : Lt) (τ : Nat → Nat) : List (Addr × Obj) := [(137, reo88 K w L τ), (165, reo79 K w L τ), (911, reo95 K w L τ), (912, reo96 K w L τ), (913, reo97 K w L τ), (930, reo92 K w L τ)]
noncomputable def reo99 (K : Params → KT) (w : World) (L : Lt) (τ : Nat → Nat) : Obj := ⟨(.type "frame"), none, (.dict ⟨[entS w ⟨⟨[108, 101, 116, 116, 101, 114, 115]⟩⟩ (τ 1482) (.str (rel L [0, 1, 2]) (τ 422)), entS w ⟨⟨[110]⟩⟩ (τ 1483) (.int 3 (τ 379)), entS w ⟨⟨[102, 114, 101, 115, 104]⟩⟩ (τ 1584) (.ref 1290)]⟩ 3), ⟨[(some (.ref 124)), (some (.ref 3)), none, (some (.ref 137)), none, (some (.ref 125)), (some (.ref 0)), (some (.ref 913)), (some (.ref 912))]⟩⟩
noncomputable def reo100 (K : Params → KT) (w : World) (L : Lt) (τ : Nat → Nat) : Obj := ⟨(.type "cell"), none, (.cell (some (.str (rel L [2, 2, 2, 0, 0, 0, 1, 0, 0, 2, 0, 1]) (τ 2382)))), ⟨[]⟩⟩
noncomputable def reo101 (K : Params → KT) (w : World) (L : Lt) (τ : Nat → Nat) : Obj := ⟨(.type "cell"), none, (.cell (some (.str (rel L [2, 0]) (τ 2296)))), ⟨[]⟩⟩
noncomputable def rel102 (K : Params → KT) (w : World) (L : Lt) (τ : Nat → Nat) : List (Addr × Obj) := [(137, reo88 K w L τ), (165, reo79 K w L τ), (911, reo99 K w L τ), (912, reo100 K w L τ), (913, reo101 K w L τ), (930, reo92 K w L τ)]
noncomputable def reo103 (K : Params → KT) (w : World) (L : Lt) (τ : Nat → Nat) : Obj := ⟨(.type "frame"), none, (.dict ⟨[entS w ⟨⟨[108, 101, 116, 116, 101, 114, 115]⟩⟩ (τ 1482) (.str (rel L [0, 1, 2]) (τ 422)), entS w ⟨⟨[110]⟩⟩ (τ 1483) (.int 3 (τ 379)), entS w ⟨⟨[102, 114, 101, 115, 104]⟩⟩ (τ 1584) (.ref 1425)]⟩ 3), ⟨[(some (.ref 124)), (some (.ref 3)), none, (some (.ref 137)), none, (some (.ref 125)), (some (.ref 0)), (some (.ref 913)), (some (.ref 912))]⟩⟩
noncomputable def reo104 (K : Params → KT) (w : World) (L : Lt) (τ : Nat → Nat) : Obj := ⟨(.type "cell"), none, (.cell (some (.str (rel L [2, 2, 2, 0, 0, 0, 1, 0, 0, 2, 0, 1, 1, 0, 1]) (τ 2688)))), ⟨[]⟩⟩
noncomputable def reo105 (K : Params → KT) (w : World) (L : Lt) (τ : Nat → Nat) : Obj := ⟨(.type "cell"), none, (.cell (some (.str (rel L [1, 0]) (τ 2594)))), ⟨[]⟩⟩
noncomputable def rel106 (K : Params → KT) (w : World) (L : Lt) (τ : Nat → Nat) : List (Addr × Obj) := [(137, reo88 K w L τ), (165, reo79 K w L τ), (911, reo103 K w L τ), (912, reo104 K w L τ), (913, reo105 K w L τ), (930, reo92 K w L τ)]
noncomputable def reo107 (K : Params → KT) (w : World) (L : Lt) (τ : Nat → Nat) : Obj := ⟨(.type "frame"), none, (.dict ⟨[entS w ⟨⟨[108, 101, 116, 116, 101, 114, 115]⟩⟩ (τ 1482) (.str (rel L [0, 1, 2]) (τ 422)), entS w ⟨⟨[110]⟩⟩ (τ 1483) (.int 3 (τ 379)), entS w ⟨⟨[102, 114, 101, 115, 104]⟩⟩ (τ 1584) (.ref 1554)]⟩ 3), ⟨[(some (.ref 124)), (some (.ref 3)), none, (some (.ref 137)), none, (some (.ref 125)), (some (.ref 0)), (some (.ref 913)), (some (.ref 912))]⟩⟩
noncomputable def reo108 (K : Params → KT) (w : World) (L : Lt) (τ : Nat → Nat) : Obj := ⟨(.type "cell"), none, (.cell (some (.str (rel L [2, 2, 2, 0, 0, 0, 1, 0, 0, 2, 0, 1, 1, 0, 1, 2, 0, 2]) (τ 3002)))), ⟨[]⟩⟩
noncomputable def reo109 (K : Params → KT) (w : World) (L : Lt) (τ : Nat → Nat) : Obj := ⟨(.type "cell"), none, (.cell (some (.str (rel L [2, 0]) (τ 2909)))), ⟨[]⟩⟩
noncomputable def rel110 (K : Params → KT) (w : World) (L : Lt) (τ : Nat → Nat) : List (Addr × Obj) := [(137, reo88 K w L τ), (165, reo79 K w L τ), (911, reo107 K w L τ), (912, reo108 K w L τ), (913, reo109 K w L τ), (930, reo92 K w L τ)]
noncomputable def reo111 (K : Params → KT) (w : World) (L : Lt) (τ : Nat → Nat) : Obj := ⟨(.type "frame"), none, (.dict ⟨[entS w ⟨⟨[108, 101, 116, 116, 101, 114, 115]⟩⟩ (τ 1482) (.str (rel L [0, 1, 2]) (τ 422)), entS w ⟨⟨[110]⟩⟩ (τ 1483) (.int 3 (τ 379)), entS w ⟨⟨[102, 114, 101, 115, 104]⟩⟩ (τ 1584) (.ref 1683)]⟩ 3), ⟨[(some (.ref 124)), (some (.ref 3)), none, (some (.ref 137)), none, (some (.ref 125)), (some (.ref 0)), (some (.ref 913)), (some (.ref 912))]⟩⟩
noncomputable def reo112 (K : Params → KT) (w : World) (L : Lt) (τ : Nat → Nat) : Obj := ⟨(.type "cell"), none, (.cell (some (.str (rel L [2, 2, 2, 0, 0, 0, 1, 0, 0, 2, 0, 1, 1, 0, 1, 2, 0, 2, 1, 0, 2]) (τ 3327)))), ⟨[]⟩⟩
noncomputable def reo113 (K : Params → KT) (w : World) (L : Lt) (τ : Nat → Nat) : Obj := ⟨(.type "cell"), none, (.cell (some (.str (rel L [1, 0]) (τ 3220)))), ⟨[]⟩⟩
noncomputable def rel114 (K : Params → KT) (w : World) (L : Lt) (τ : Nat → Nat) : List (Addr × Obj) := [(137, reo88 K w L τ), (165, reo79 K w L τ), (911, reo111 K w L τ), (912, reo112 K w L τ), (913, reo113 K w L τ), (930, reo92 K w L τ)]
noncomputable def reo115 (K : Params → KT) (w : World) (L : Lt) (τ : Nat → Nat) : Obj := ⟨(.type "frame"), none, (.dict ⟨[entS w ⟨⟨[108, 101, 116, 116, 101, 114, 115]⟩⟩ (τ 1482) (.str (rel L [0, 1, 2]) (τ 422)), entS w ⟨⟨[110]⟩⟩ (τ 1483) (.int 3 (τ 379)), entS w ⟨⟨[102, 114, 101, 115, 104]⟩⟩ (τ 1584) (.ref 1794)]⟩ 3), ⟨[(some (.ref 124)), (some (.ref 3)), none, (some (.ref 137)), none, (some (.ref 125)), (some (.ref 0)), (some (.ref 913)), (some (.ref 912))]⟩⟩
noncomputable def reo116 (K : Params → KT) (w : World) (L : Lt) (τ : Nat → Nat) : Obj := ⟨(.type "cell"), none, (.cell (some (.str (rel L [2, 2, 2, 0, 0, 0, 1, 0, 0, 2, 0, 1, 1, 0, 1, 2, 0, 2, 1, 0, 2, 2, 1, 1]) (τ 3662)))), ⟨[]⟩⟩
noncomputable def reo117 (K : Params → KT) (w : World) (L : Lt) (τ : Nat → Nat) : Obj := ⟨(.type "cell"), none, (.cell (some (.str (rel L [2, 1]) (τ 3546)))), ⟨[]⟩⟩
noncomputable def rel118 (K : Params → KT) (w : World) (L : Lt) (τ : Nat → Nat) : List (Addr × Obj) := [(137, reo88 K w L τ), (165, reo79 K w L τ), (911, reo115 K w L τ), (912, reo116 K w L τ), (913, reo117 K w L τ), (930, reo92 K w L τ)]
noncomputable def reo119 (K : Params → KT) (w : World) (L : Lt) (τ : Nat → Nat) : Obj := ⟨(.type "frame"), none, (.dict ⟨[entS w ⟨⟨[108, 101, 116, 116, 101, 114, 115]⟩⟩ (τ 1482) (.str (rel L [0, 1, 2]) (τ 422)), entS w ⟨⟨[110]⟩⟩ (τ 1483) (.int 3 (τ 379)), entS w ⟨⟨[102, 114, 101, 115, 104]⟩⟩ (τ 1584) (.ref 1880)]⟩ 3), ⟨[(some (.ref 124)), (some (.ref 3)), none, (some (.ref 137)), none, (some (.ref 125)), (some (.ref 0)), (some (.ref 913)), (some (.ref 912))]⟩⟩
noncomputable def reo120 (K : Params → KT) (w : World) (L : Lt) (τ : Nat → Nat) : Obj := ⟨(.type "cell"), none, (.cell (some (.str (rel L [2, 2, 2, 0, 0, 0, 1, 0, 0, 2, 0, 1, 1, 0, 1, 2, 0, 2, 1, 0, 2, 2, 1, 1, 1, 2]) (τ 3921)))), ⟨[]⟩⟩
noncomputable def reo121 (K : Params → KT) (w : World) (L : Lt) (τ : Nat → Nat) : Obj := ⟨(.type "cell"), none, (.cell (some (.str (rel L [1, 1]) (τ 3784)))), ⟨[]⟩⟩
noncomputable def rel122 (K : Params → KT) (w : World) (L : Lt) (τ : Nat → Nat) : List (Addr × Obj) := [(137, reo88 K w L τ), (165, reo79 K w L τ), (911, reo119 K w L τ), (912, reo120 K w L τ), (913, reo121 K w L τ), (930, reo92 K w L τ)]
noncomputable def reo123 (K : Params → KT) (w : World) (L : Lt) (τ : Nat → Nat) : Obj := ⟨(.type "frame"), none, (.dict ⟨[entS w ⟨⟨[108, 101, 116, 116, 101, 114, 115]⟩⟩ (τ 1482) (.str (rel L [0, 1, 2]) (τ 422)), entS w ⟨⟨[110]⟩⟩ (τ 1483) (.int 3 (τ 379)), entS w ⟨⟨[102, 114, 101, 115, 104]⟩⟩ (τ 1584) (.ref 1960)]⟩ 3), ⟨[(some (.ref 124)), (some (.ref 3)), none, (some (.ref 137)), none, (some (.ref 125)), (some (.ref 0)), (some (.ref 913)), (some (.ref 912))]⟩⟩
noncomputable def reo124 (K : Params → KT) (w : World) (L : Lt) (τ : Nat → Nat) : Obj := ⟨(.type "cell"), none, (.cell (some (.str (rel L [2, 2, 2, 0, 0, 0, 1, 0, 0, 2, 0, 1, 1, 0, 1, 2, 0, 2, 1, 0, 2, 2, 1, 1, 1, 2, 1, 2]) (τ 4196)))), ⟨[]⟩⟩
noncomputable def reo125 (K : Params → KT) (w : World) (L : Lt) (τ : Nat → Nat) : Obj := ⟨(.type "cell"), none, (.cell (some (.str (rel L [2, 1]) (τ 4049)))), ⟨[]⟩⟩
noncomputable def rel126 (K : Params → KT) (w : World) (L : Lt) (τ : Nat → Nat) : List (Addr × Obj) := [(137, reo88 K w L τ), (165, reo79 K w L τ), (911, reo123 K w L τ), (912, reo124 K w L τ), (913, reo125 K w L τ), (930, reo92 K w L τ)]
noncomputable def rel127 (K : Params → KT) (w : World) (L : Lt) (τ : Nat → Nat) : List (Addr × Obj) := [(137, reo88 K w L τ), (165, reo79 K w L τ)]
noncomputable def re_grow81_9 (K : Params → KT) (w : World) (L : Lt) : Ctr := ⟨rex83 K w L, fun τ => dF (rex83 K w L τ).code, rel126 K w L, rec94 K w L, 1995, fun τ => (.ret (.str (rel L [2, 2, 2, 0, 0, 0, 1, 0, 0, 2, 0, 1, 1, 0, 1, 2, 0, 2, 1, 0, 2, 2, 1, 1, 1, 2, 1, 2, 2]) (τ 4352))), rel127 K w L, rec94 K w L, 2063⟩
noncomputable def re_grow81_9_h (K : Params → KT) (w : World) (L : Lt) (hL : LtOk L 3) : List (Nat × Act) := [(3169, S), (3114, S), (3111, .bi (biIter hL [0, 1, 2] rfl)), (3103, .comp .ascii), (2979, .bi (biIndex hL [2, 2, 2, 0, 0, 0, 1, 0, 0, 2, 0, 1, 1, 0, 1, 2, 0, 2, 1, 0, 2, 2, 1, 1, 1, 2, 1, 2] [1, 2, 0] rfl rfl)), (2939, S), (2936, .bi (biIter hL [2, 2, 2, 0, 0, 0, 1, 0, 0, 2, 0, 1, 1, 0] rfl)), (2921, S), (2901, S), (2881, S), (2861, S), (2841, S), (2821, S), (2801, S), (2781, S), (2761, S), (2741, S), (2721, S), (2701, S), (2681, S), (2661, S), (2580, S), (2577, .bi (biEq hL [1, 2, 0] [1, 2, 0] rfl rfl)), (2448, .bi (biIndex hL [2, 2, 2, 0, 0, 0, 1, 0, 0, 2, 0, 1, 1, 0, 1, 2, 0, 2, 1, 0, 2, 2, 1, 1, 1, 2, 1, 2] [1, 2, 1] rfl rfl)), (2408, S), (2405, .bi (biIter hL [2, 2, 2, 0, 0, 0, 1, 0, 0, 2, 0, 1, 1, 0, 1, 2, 0, 2, 1, 0, 2, 2, 1, 1] rfl)), (2390, S), (2370, S), (2350, S), (2330, S), (2310, S), (2290, S), (2270, S), (2250, S), (2230, S), (2210, S), (2190, S), (2170, S), (2150, S), (2130, S), (2110, S), (2090, S), (2070, S), (2050, S), (2030, S), (2010, S), (1990, S), (1970, S), (1950, S), (1930, S), (1849, S), (1846, .bi (biEq hL [1, 2, 1] [1, 2, 1] rfl rfl)), (1717, .bi (biIndex hL [2, 2, 2, 0, 0, 0, 1, 0, 0, 2, 0, 1, 1, 0, 1, 2, 0, 2, 1, 0, 2, 2, 1, 1, 1, 2, 1, 2] [1, 2, 2] rfl rfl)), (1644, S), (1641, .bi (biRepr hL [1, 2, 2] rfl rfl)), (1637, H (.cnt 139)), (1592, H (.cnt 139)), (1546, S), (1536, H (.un 1592 5)), (1351, S), (1297, S), (1242, S), (1239, .bi (biIter hL [0, 1, 2] rfl)), (1231, .comp .ascii), (1107, .bi (biIndex hL [2, 2, 2, 0, 0, 0, 1, 0, 0, 2, 0, 1, 1, 0, 1, 2, 0, 2, 1, 0, 2, 2, 1, 1, 1, 2, 1, 2, 2] [2, 2, 0] rfl rfl)), (1067, S), (1064, .bi (biIter hL [2] rfl)), (1049, S), (968, S), (965, .bi (biEq hL [2, 2, 0] [2, 2, 0] rfl rfl)), (836, .bi (biIndex hL [2, 2, 2, 0, 0, 0, 1, 0, 0, 2, 0, 1, 1, 0, 1, 2, 0, 2, 1, 0, 2, 2, 1, 1, 1, 2, 1, 2, 2] [2, 2, 1] rfl rfl)), (796, S), (793, .bi (biIter hL [2, 2, 2, 0, 0, 0, 1, 0, 0, 2, 0, 1, 1, 0, 1, 2, 0, 2, 1, 0] rfl)), (778, S), (758, S), (738, S), (718, S), (698, S), (678, S), (658, S), (638, S), (618, S), (598, S), (578, S), (558, S), (538, S), (518, S), (498, S), (478, S), (458, S), (438, S), (418, S), (398, S), (317, S), (314, .bi (biEq hL [2, 2, 1] [2, 2, 1] rfl rfl)), (185, .bi (biIndex hL [2, 2, 2, 0, 0, 0, 1, 0, 0, 2, 0, 1, 1, 0, 1, 2, 0, 2, 1, 0, 2, 2, 1, 1, 1, 2, 1, 2, 2] [2, 2, 2] rfl rfl)), (145, S), (67, S), (64, .bi (biEq hL [2, 2, 2] [2, 2, 2] rfl rfl)), (18, S)]
theorem re_grow81_9_t (b : Pk) (L : Lt) (hL : LtOk L 3) : FinT (b.V z0.1) (re_grow81_9 z0.1 b.w L) 3188 (re_grow81_9_h z0.1 b.w L hL) ⟨none, [(4348, .un 1536), (4342, .un 1592), (4337, .un 1637), (4197, .cnt)]⟩ := by intro R p i τ υ; kernel_rfl
theorem re_grow81_9_ok (b : Pk) (O : (b.V z0.1).Ok) (L : Lt) (hL : LtOk L 3) (hB : Bnd L) : (re_grow81_9 z0.1 b.w L).Ok (b.V z0.1) := okF O (re_grow81_9_t b L hL) (met .nil (by kernel_rfl))
noncomputable def re_grow81_8 (K : Params → KT) (w : World) (L : Lt) : Ctr := ⟨rex83 K w L, fun τ => dF (rex83 K w L τ).code, rel122 K w L, rec94 K w L, 1915, fun τ => (.ret (.str (rel L [2, 2, 2, 0, 0, 0, 1, 0, 0, 2, 0, 1, 1, 0, 1, 2, 0, 2, 1, 0, 2, 2, 1, 1, 1, 2, 1, 2, 2]) (τ 4352))), rel127 K w L, rec94 K w L, 2063⟩
noncomputable def re_grow81_8_h (K : Params → KT) (w : World) (L : Lt) (hL : LtOk L 3) : List (Nat × Act) := [(3445, S), (3390, S), (3387, .bi (biIter hL [0, 1, 2] rfl)), (3379, .comp .ascii), (3255, .bi (biIndex hL [2, 2, 2, 0, 0, 0, 1, 0, 0, 2, 0, 1, 1, 0, 1, 2, 0, 2, 1, 0, 2, 2, 1, 1, 1, 2] [1, 2, 0] rfl rfl)), (3215, S), (3212, .bi (biIter hL [2, 2, 2, 0, 0, 0, 1, 0, 0, 2, 0, 1, 1, 0] rfl)), (3197, S), (3177, S), (3157, S), (3137, S), (3117, S), (3097, S), (3077, S), (3057, S), (3037, S), (3017, S), (2997, S), (2977, S), (2957, S), (2937, S), (2856, S), (2853, .bi (biEq hL [1, 2, 0] [1, 2, 0] rfl rfl)), (2724, .bi (biIndex hL [2, 2, 2, 0, 0, 0, 1, 0, 0, 2, 0, 1, 1, 0, 1, 2, 0, 2, 1, 0, 2, 2, 1, 1, 1, 2] [1, 2, 1] rfl rfl)), (2651, S), (2648, .bi (biRepr hL [1, 2, 1] rfl rfl)), (2644, H (.cnt 72)), (2599, H (.cnt 72)), (2553, S), (2543, H (.un 2599 5)), (2275, .bi (biIndex hL [2, 2, 2, 0, 0, 0, 1, 0, 0, 2, 0, 1, 1, 0, 1, 2, 0, 2, 1, 0, 2, 2, 1, 1, 1, 2] [1, 2, 2] rfl rfl)), (2202, S), (2199, .bi (biRepr hL [1, 2, 2] rfl rfl)), (2195, H (.un 2543 18)), (2150, H (.un 2543 18)), (2104, S), (2094, H (.un 2150 5)), (1909, S), (1855, S), (1800, S), (1797, .bi (biIter hL [0, 1, 2] rfl)), (1789, .comp .ascii), (1665, .bi (biIndex hL [2, 2, 2, 0, 0, 0, 1, 0, 0, 2, 0, 1, 1, 0, 1, 2, 0, 2, 1, 0, 2, 2, 1, 1, 1, 2, 1] [2, 1, 0] rfl rfl)), (1625, S), (1622, .bi (biIter hL [2, 2, 2, 0, 0, 0, 1, 0, 0, 2, 0, 1, 1, 0, 1, 2, 0] rfl)), (1607, S), (1587, S), (1567, S), (1547, S), (1527, S), (1507, S), (1487, S), (1467, S), (1447, S), (1427, S), (1407, S), (1387, S), (1367, S), (1347, S), (1327, S), (1307, S), (1287, S), (1206, S), (1203, .bi (biEq hL [2, 1, 0] [2, 1, 0] rfl rfl)), (1074, .bi (biIndex hL [2, 2, 2, 0, 0, 0, 1, 0, 0, 2, 0, 1, 1, 0, 1, 2, 0, 2, 1, 0, 2, 2, 1, 1, 1, 2, 1] [2, 1, 1] rfl rfl)), (1034, S), (1031, .bi (biIter hL [2, 2, 2, 0, 0, 0, 1, 0, 0, 2, 0, 1, 1, 0, 1, 2, 0, 2, 1, 0, 2] rfl)), (1016, S), (996, S), (976, S), (956, S), (936, S), (916, S), (896, S), (876, S), (856, S), (836, S), (816, S), (796, S), (776, S), (756, S), (736, S), (716, S), (696, S), (676, S), (656, S), (636, S), (616, S), (535, S), (532, .bi (biEq hL [2, 1, 1] [2, 1, 1] rfl rfl)), (403, .bi (biIndex hL [2, 2, 2, 0, 0, 0, 1, 0, 0, 2, 0, 1, 1, 0, 1, 2, 0, 2, 1, 0, 2, 2, 1, 1, 1, 2, 1] [2, 1, 2] rfl rfl)), (330, S), (327, .bi (biRepr hL [2, 1, 2] rfl rfl)), (323, H (.un 2094 144)), (278, H (.un 2094 144)), (232, S), (222, H (.un 278 5)), (37, S), (1, .meet)]
theorem re_grow81_8_t (b : Pk) (L : Lt) (hL : LtOk L 3) : NextT (b.V z0.1) (re_grow81_8 z0.1 b.w L) (re_grow81_9 z0.1 b.w L) 3464 (re_grow81_8_h z0.1 b.w L hL) ⟨none, [(4192, .un 222), (4186, .un 278), (4181, .un 323), (4036, .un 2094), (4030, .un 2150), (4025, .un 2195), (4006, .un 2543), (4000, .un 2599), (3995, .un 2644), (3922, .cnt)]⟩ := by intro R p i τ υ; kernel_rfl
theorem re_grow81_8_ok (b : Pk) (O : (b.V z0.1).Ok) (L : Lt) (hL : LtOk L 3) (hB : Bnd L) : (re_grow81_8 z0.1 b.w L).Ok (b.V z0.1) := okN O (re_grow81_8_t b L hL) (re_grow81_9_ok b O L hL hB) ⟨rfl, rfl, rfl, rfl⟩ (met .nil (by kernel_rfl))
noncomputable def re_grow81_7 (K : Params → KT) (w : World) (L : Lt) : Ctr := ⟨rex83 K w L, fun τ => dF (rex83 K w L τ).code, rel118 K w L, rec94 K w L, 1835, fun τ => (.ret (.str (rel L [2, 2, 2, 0, 0, 0, 1, 0, 0, 2, 0, 1, 1, 0, 1, 2, 0, 2, 1, 0, 2, 2, 1, 1, 1, 2, 1, 2, 2]) (τ 4352))), rel127 K w L, rec94 K w L, 2063⟩
noncomputable def re_grow81_7_h (K : Params → KT) (w : World) (L : Lt) (hL : LtOk L 3) : List (Nat × Act) := [(3285, S), (3230, S), (3227, .bi (biIter hL [0, 1, 2] rfl)), (3219, .comp .ascii), (3095, .bi (biIndex hL [2, 2, 2, 0, 0, 0, 1, 0, 0, 2, 0, 1, 1, 0, 1, 2, 0, 2, 1, 0, 2, 2, 1, 1] [1, 1, 0] rfl rfl)), (3055, S), (3052, .bi (biIter hL [2, 2, 2, 0, 0, 0, 1, 0, 0, 2, 0] rfl)), (3037, S), (3017, S), (2997, S), (2977, S), (2957, S), (2937, S), (2917, S), (2897, S), (2877, S), (2857, S), (2837, S), (2756, S), (2753, .bi (biEq hL [1, 1, 0] [1, 1, 0] rfl rfl)), (2624, .bi (biIndex hL [2, 2, 2, 0, 0, 0, 1, 0, 0, 2, 0, 1, 1, 0, 1, 2, 0, 2, 1, 0, 2, 2, 1, 1] [1, 1, 1] rfl rfl)), (2551, S), (2548, .bi (biRepr hL [1, 1, 1] rfl rfl)), (2544, H (.cnt 66)), (2499, H (.cnt 66)), (2453, S), (2443, H (.un 2499 5)), (2175, .bi (biIndex hL [2, 2, 2, 0, 0, 0, 1, 0, 0, 2, 0, 1, 1, 0, 1, 2, 0, 2, 1, 0, 2, 2, 1, 1] [1, 1, 2] rfl rfl)), (2102, S), (2099, .bi (biRepr hL [1, 1, 2] rfl rfl)), (2095, H (.un 2443 18)), (2050, H (.un 2443 18)), (2004, S), (1994, H (.un 2050 5)), (1809, S), (1755, S), (1700, S), (1697, .bi (biIter hL [0, 1, 2] rfl)), (1689, .comp .ascii), (1565, .bi (biIndex hL [2, 2, 2, 0, 0, 0, 1, 0, 0, 2, 0, 1, 1, 0, 1, 2, 0, 2, 1, 0, 2, 2, 1, 1, 1] [1, 1, 0] rfl rfl)), (1525, S), (1522, .bi (biIter hL [2, 2, 2, 0, 0, 0, 1, 0, 0, 2, 0] rfl)), (1507, S), (1487, S), (1467, S), (1447, S), (1427, S), (1407, S), (1387, S), (1367, S), (1347, S), (1327, S), (1307, S), (1226, S), (1223, .bi (biEq hL [1, 1, 0] [1, 1, 0] rfl rfl)), (1094, .bi (biIndex hL [2, 2, 2, 0, 0, 0, 1, 0, 0, 2, 0, 1, 1, 0, 1, 2, 0, 2, 1, 0, 2, 2, 1, 1, 1] [1, 1, 1] rfl rfl)), (1054, S), (1051, .bi (biIter hL [2, 2, 2, 0, 0, 0, 1, 0, 0, 2, 0, 1, 1, 0, 1, 2, 0, 2, 1, 0, 2, 2] rfl)), (1036, S), (1016, S), (996, S), (976, S), (956, S), (936, S), (916, S), (896, S), (876, S), (856, S), (836, S), (816, S), (796, S), (776, S), (756, S), (736, S), (716, S), (696, S), (676, S), (656, S), (636, S), (616, S), (535, S), (532, .bi (biEq hL [1, 1, 1] [1, 1, 1] rfl rfl)), (403, .bi (biIndex hL [2, 2, 2, 0, 0, 0, 1, 0, 0, 2, 0, 1, 1, 0, 1, 2, 0, 2, 1, 0, 2, 2, 1, 1, 1] [1, 1, 2] rfl rfl)), (330, S), (327, .bi (biRepr hL [1, 1, 2] rfl rfl)), (323, H (.un 1994 134)), (278, H (.un 1994 134)), (232, S), (222, H (.un 278 5)), (37, S), (1, .meet)]
theorem re_grow81_7_t (b : Pk) (L : Lt) (hL : LtOk L 3) : NextT (b.V z0.1) (re_grow81_7 z0.1 b.w L) (re_grow81_8 z0.1 b.w L) 3304 (re_grow81_7_h z0.1 b.w L hL) ⟨none, [(3917, .un 222), (3911, .un 278), (3906, .un 323), (3771, .un 1994), (3765, .un 2050), (3760, .un 2095), (3741, .un 2443), (3735, .un 2499), (3730, .un 2544), (3663, .cnt)]⟩ := by intro R p i τ υ; kernel_rfl
theorem re_grow81_7_ok (b : Pk) (O : (b.V z0.1).Ok) (L : Lt) (hL : LtOk L 3) (hB : Bnd L) : (re_grow81_7 z0.1 b.w L).Ok (b.V z0.1) := okN O (re_grow81_7_t b L hL) (re_grow81_8_ok b O L hL hB) ⟨rfl, rfl, rfl, rfl⟩ (met .nil (by kernel_rfl))
noncomputable def re_grow81_6 (K : Params → KT) (w : World) (L : Lt) : Ctr := ⟨rex83 K w L, fun τ => dF (rex83 K w L τ).code, rel114 K w L, rec94 K w L, 1718, fun τ => (.ret (.str (rel L [2, 2, 2, 0, 0, 0, 1, 0, 0, 2, 0, 1, 1, 0, 1, 2, 0, 2, 1, 0, 2, 2, 1, 1, 1, 2, 1, 2, 2]) (τ 4352))), rel127 K w L, rec94 K w L, 2063⟩
noncomputable def re_grow81_6_h (K : Params → KT) (w : World) (L : Lt) (hL : LtOk L 3) : List (Nat × Act) := [(4356, S), (4301, S), (4298, .bi (biIter hL [0, 1, 2] rfl)), (4290, .comp .ascii), (4166, .bi (biIndex hL [2, 2, 2, 0, 0, 0, 1, 0, 0, 2, 0, 1, 1, 0, 1, 2, 0, 2, 1, 0, 2] [0, 2, 0] rfl rfl)), (4126, S), (4123, .bi (biIter hL [2, 2, 2, 0, 0, 0, 1, 0] rfl)), (4108, S), (4088, S), (4068, S), (4048, S), (4028, S), (4008, S), (3988, S), (3968, S), (3887, S), (3884, .bi (biEq hL [0, 2, 0] [0, 2, 0] rfl rfl)), (3755, .bi (biIndex hL [2, 2, 2, 0, 0, 0, 1, 0, 0, 2, 0, 1, 1, 0, 1, 2, 0, 2, 1, 0, 2] [0, 2, 1] rfl rfl)), (3715, S), (3712, .bi (biIter hL [2, 2, 2, 0, 0, 0, 1, 0, 0, 2, 0, 1, 1, 0, 1, 2] rfl)), (3697, S), (3677, S), (3657, S), (3637, S), (3617, S), (3597, S), (3577, S), (3557, S), (3537, S), (3517, S), (3497, S), (3477, S), (3457, S), (3437, S), (3417, S), (3397, S), (3316, S), (3313, .bi (biEq hL [0, 2, 1] [0, 2, 1] rfl rfl)), (3184, .bi (biIndex hL [2, 2, 2, 0, 0, 0, 1, 0, 0, 2, 0, 1, 1, 0, 1, 2, 0, 2, 1, 0, 2] [0, 2, 2] rfl rfl)), (3111, S), (3108, .bi (biRepr hL [0, 2, 2] rfl rfl)), (3104, H (.cnt 111)), (3059, H (.cnt 111)), (3013, S), (3003, H (.un 3059 5)), (2818, S), (2764, S), (2709, S), (2706, .bi (biIter hL [0, 1, 2] rfl)), (2698, .comp .ascii), (2574, .bi (biIndex hL [2, 2, 2, 0, 0, 0, 1, 0, 0, 2, 0, 1, 1, 0, 1, 2, 0, 2, 1, 0, 2, 2] [2, 2, 0] rfl rfl)), (2534, S), (2531, .bi (biIter hL [2] rfl)), (2516, S), (2435, S), (2432, .bi (biEq hL [2, 2, 0] [2, 2, 0] rfl rfl)), (2303, .bi (biIndex hL [2, 2, 2, 0, 0, 0, 1, 0, 0, 2, 0, 1, 1, 0, 1, 2, 0, 2, 1, 0, 2, 2] [2, 2, 1] rfl rfl)), (2230, S), (2227, .bi (biRepr hL [2, 2, 1] rfl rfl)), (2223, H (.un 3003 51)), (2178, H (.un 3003 51)), (2132, S), (2122, H (.un 2178 5)), (1854, .bi (biIndex hL [2, 2, 2, 0, 0, 0, 1, 0, 0, 2, 0, 1, 1, 0, 1, 2, 0, 2, 1, 0, 2, 2] [2, 2, 2] rfl rfl)), (1814, S), (1736, S), (1733, .bi (biEq hL [2, 2, 2] [2, 2, 2] rfl rfl)), (1687, S), (1633, S), (1578, S), (1575, .bi (biIter hL [0, 1, 2] rfl)), (1567, .comp .ascii), (1443, .bi (biIndex hL [2, 2, 2, 0, 0, 0, 1, 0, 0, 2, 0, 1, 1, 0, 1, 2, 0, 2, 1, 0, 2, 2, 1] [2, 1, 0] rfl rfl)), (1403, S), (1400, .bi (biIter hL [2, 2, 2, 0, 0, 0, 1, 0, 0, 2, 0, 1, 1, 0, 1, 2, 0] rfl)), (1385, S), (1365, S), (1345, S), (1325, S), (1305, S), (1285, S), (1265, S), (1245, S), (1225, S), (1205, S), (1185, S), (1165, S), (1145, S), (1125, S), (1105, S), (1085, S), (1065, S), (984, S), (981, .bi (biEq hL [2, 1, 0] [2, 1, 0] rfl rfl)), (852, .bi (biIndex hL [2, 2, 2, 0, 0, 0, 1, 0, 0, 2, 0, 1, 1, 0, 1, 2, 0, 2, 1, 0, 2, 2, 1] [2, 1, 1] rfl rfl)), (779, S), (776, .bi (biRepr hL [2, 1, 1] rfl rfl)), (772, H (.un 2122 102)), (727, H (.un 2122 102)), (681, S), (671, H (.un 727 5)), (403, .bi (biIndex hL [2, 2, 2, 0, 0, 0, 1, 0, 0, 2, 0, 1, 1, 0, 1, 2, 0, 2, 1, 0, 2, 2, 1] [2, 1, 2] rfl rfl)), (330, S), (327, .bi (biRepr hL [2, 1, 2] rfl rfl)), (323, H (.un 671 18)), (278, H (.un 671 18)), (232, S), (222, H (.un 278 5)), (37, S), (1, .meet)]
theorem re_grow81_6_t (b : Pk) (L : Lt) (hL : LtOk L 3) : NextT (b.V z0.1) (re_grow81_6 z0.1 b.w L) (re_grow81_7 z0.1 b.w L) 4375 (re_grow81_6_h z0.1 b.w L hL) ⟨none, [(3658, .un 222), (3652, .un 278), (3647, .un 323), (3628, .un 671), (3622, .un 727), (3617, .un 772), (3514, .un 2122), (3508, .un 2178), (3503, .un 2223), (3451, .un 3003), (3445, .un 3059), (3440, .un 3104), (3328, .cnt)]⟩ := by intro R p i τ υ; kernel_rfl
theorem re_grow81_6_ok (b : Pk) (O : (b.V z0.1).Ok) (L : Lt) (hL : LtOk L 3) (hB : Bnd L) : (re_grow81_6 z0.1 b.w L).Ok (b.V z0.1) := okN O (re_grow81_6_t b L hL) (re_grow81_7_ok b O L hL hB) ⟨rfl, rfl, rfl, rfl⟩ (met .nil (by kernel_rfl))
noncomputable def re_grow81_5 (K : Params → KT) (w : World) (L : Lt) : Ctr := ⟨rex83 K w L, fun τ => dF (rex83 K w L τ).code, rel110 K w L, rec94 K w L, 1589, fun τ => (.ret (.str (rel L [2, 2, 2, 0, 0, 0, 1, 0, 0, 2, 0, 1, 1, 0, 1, 2, 0, 2, 1, 0, 2, 2, 1, 1, 1, 2, 1, 2, 2]) (τ 4352))), rel127 K w L, rec94 K w L, 2063⟩
noncomputable def re_grow81_5_h (K : Params → KT) (w : World) (L : Lt) (hL : LtOk L 3) : List (Nat × Act) := [(4433, S), (4378, S), (4375, .bi (biIter hL [0, 1, 2] rfl)), (4367, .comp .ascii), (4243, .bi (biIndex hL [2, 2, 2, 0, 0, 0, 1, 0, 0, 2, 0, 1, 1, 0, 1, 2, 0, 2] [0, 2, 0] rfl rfl)), (4203, S), (4200, .bi (biIter hL [2, 2, 2, 0, 0, 0, 1, 0] rfl)), (4185, S), (4165, S), (4145, S), (4125, S), (4105, S), (4085, S), (4065, S), (4045, S), (3964, S), (3961, .bi (biEq hL [0, 2, 0] [0, 2, 0] rfl rfl)), (3832, .bi (biIndex hL [2, 2, 2, 0, 0, 0, 1, 0, 0, 2, 0, 1, 1, 0, 1, 2, 0, 2] [0, 2, 1] rfl rfl)), (3759, S), (3756, .bi (biRepr hL [0, 2, 1] rfl rfl)), (3752, H (.cnt 60)), (3707, H (.cnt 60)), (3661, S), (3651, H (.un 3707 5)), (3383, .bi (biIndex hL [2, 2, 2, 0, 0, 0, 1, 0, 0, 2, 0, 1, 1, 0, 1, 2, 0, 2] [0, 2, 2] rfl rfl)), (3310, S), (3307, .bi (biRepr hL [0, 2, 2] rfl rfl)), (3303, H (.un 3651 18)), (3258, H (.un 3651 18)), (3212, S), (3202, H (.un 3258 5)), (3017, S), (2963, S), (2908, S), (2905, .bi (biIter hL [0, 1, 2] rfl)), (2897, .comp .ascii), (2773, .bi (biIndex hL [2, 2, 2, 0, 0, 0, 1, 0, 0, 2, 0, 1, 1, 0, 1, 2, 0, 2, 1] [2, 1, 0] rfl rfl)), (2700, S), (2697, .bi (biRepr hL [2, 1, 0] rfl rfl)), (2693, H (.un 3202 30)), (2648, H (.un 3202 30)), (2602, S), (2592, H (.un 2648 5)), (2324, .bi (biIndex hL [2, 2, 2, 0, 0, 0, 1, 0, 0, 2, 0, 1, 1, 0, 1, 2, 0, 2, 1] [2, 1, 1] rfl rfl)), (2251, S), (2248, .bi (biRepr hL [2, 1, 1] rfl rfl)), (2244, H (.un 2592 18)), (2199, H (.un 2592 18)), (2153, S), (2143, H (.un 2199 5)), (1875, .bi (biIndex hL [2, 2, 2, 0, 0, 0, 1, 0, 0, 2, 0, 1, 1, 0, 1, 2, 0, 2, 1] [2, 1, 2] rfl rfl)), (1802, S), (1799, .bi (biRepr hL [2, 1, 2] rfl rfl)), (1795, H (.un 2143 18)), (1750, H (.un 2143 18)), (1704, S), (1694, H (.un 1750 5)), (1509, S), (1455, S), (1400, S), (1397, .bi (biIter hL [0, 1, 2] rfl)), (1389, .comp .ascii), (1265, .bi (biIndex hL [2, 2, 2, 0, 0, 0, 1, 0, 0, 2, 0, 1, 1, 0, 1, 2, 0, 2, 1, 0] [1, 0, 0] rfl rfl)), (1225, S), (1222, .bi (biIter hL [2, 2, 2, 0, 0, 0] rfl)), (1207, S), (1187, S), (1167, S), (1147, S), (1127, S), (1107, S), (1026, S), (1023, .bi (biEq hL [1, 0, 0] [1, 0, 0] rfl rfl)), (894, .bi (biIndex hL [2, 2, 2, 0, 0, 0, 1, 0, 0, 2, 0, 1, 1, 0, 1, 2, 0, 2, 1, 0] [1, 0, 1] rfl rfl)), (854, S), (851, .bi (biIter hL [2, 2, 2, 0, 0, 0, 1, 0, 0, 2, 0, 1] rfl)), (836, S), (816, S), (796, S), (776, S), (756, S), (736, S), (716, S), (696, S), (676, S), (656, S), (636, S), (616, S), (535, S), (532, .bi (biEq hL [1, 0, 1] [1, 0, 1] rfl rfl)), (403, .bi (biIndex hL [2, 2, 2, 0, 0, 0, 1, 0, 0, 2, 0, 1, 1, 0, 1, 2, 0, 2, 1, 0] [1, 0, 2] rfl rfl)), (330, S), (327, .bi (biRepr hL [1, 0, 2] rfl rfl)), (323, H (.un 1694 104)), (278, H (.un 1694 104)), (232, S), (222, H (.un 278 5)), (37, S), (1, .meet)]
theorem re_grow81_5_t (b : Pk) (L : Lt) (hL : LtOk L 3) : NextT (b.V z0.1) (re_grow81_5 z0.1 b.w L) (re_grow81_6 z0.1 b.w L) 4452 (re_grow81_5_h z0.1 b.w L hL) ⟨none, [(3323, .un 222), (3317, .un 278), (3312, .un 323), (3207, .un 1694), (3201, .un 1750), (3196, .un 1795), (3177, .un 2143), (3171, .un 2199), (3166, .un 2244), (3147, .un 2592), (3141, .un 2648), (3136, .un 2693), (3105, .un 3202), (3099, .un 3258), (3094, .un 3303), (3075, .un 3651), (3069, .un 3707), (3064, .un 3752), (3003, .cnt)]⟩ := by intro R p i τ υ; kernel_rfl
theorem re_grow81_5_ok (b : Pk) (O : (b.V z0.1).Ok) (L : Lt) (hL : LtOk L 3) (hB : Bnd L) : (re_grow81_5 z0.1 b.w L).Ok (b.V z0.1) := okN O (re_grow81_5_t b L hL) (re_grow81_6_ok b O L hL hB) ⟨rfl, rfl, rfl, rfl⟩ (met .nil (by kernel_rfl))
noncomputable def re_grow81_4 (K : Params → KT) (w : World) (L : Lt) : Ctr := ⟨rex83 K w L, fun τ => dF (rex83 K w L τ).code, rel106 K w L, rec94 K w L, 1466, fun τ => (.ret (.str (rel L [2, 2, 2, 0, 0, 0, 1, 0, 0, 2, 0, 1, 1, 0, 1, 2, 0, 2, 1, 0, 2, 2, 1, 1, 1, 2, 1, 2, 2]) (τ 4352))), rel127 K w L, rec94 K w L, 2063⟩
noncomputable def re_grow81_4_h (K : Params → KT) (w : World) (L : Lt) (hL : LtOk L 3) : List (Nat × Act) := [(4235, S), (4180, S), (4177, .bi (biIter hL [0, 1, 2] rfl)), (4169, .comp .ascii), (4045, .bi (biIndex hL [2, 2, 2, 0, 0, 0, 1, 0, 0, 2, 0, 1, 1, 0, 1] [0, 1, 0] rfl rfl)), (4005, S), (4002, .bi (biIter hL [2, 2, 2, 0, 0] rfl)), (3987, S), (3967, S), (3947, S), (3927, S), (3907, S), (3826, S), (3823, .bi (biEq hL [0, 1, 0] [0, 1, 0] rfl rfl)), (3694, .bi (biIndex hL [2, 2, 2, 0, 0, 0, 1, 0, 0, 2, 0, 1, 1, 0, 1] [0, 1, 1] rfl rfl)), (3654, S), (3651, .bi (biIter hL [2, 2, 2, 0, 0, 0, 1, 0, 0, 2] rfl)), (3636, S), (3616, S), (3596, S), (3576, S), (3556, S), (3536, S), (3516, S), (3496, S), (3476, S), (3456, S), (3375, S), (3372, .bi (biEq hL [0, 1, 1] [0, 1, 1] rfl rfl)), (3243, .bi (biIndex hL [2, 2, 2, 0, 0, 0, 1, 0, 0, 2, 0, 1, 1, 0, 1] [0, 1, 2] rfl rfl)), (3170, S), (3167, .bi (biRepr hL [0, 1, 2] rfl rfl)), (3163, H (.cnt 93)), (3118, H (.cnt 93)), (3072, S), (3062, H (.un 3118 5)), (2877, S), (2823, S), (2768, S), (2765, .bi (biIter hL [0, 1, 2] rfl)), (2757, .comp .ascii), (2633, .bi (biIndex hL [2, 2, 2, 0, 0, 0, 1, 0, 0, 2, 0, 1, 1, 0, 1, 2] [1, 2, 0] rfl rfl)), (2560, S), (2557, .bi (biRepr hL [1, 2, 0] rfl rfl)), (2553, H (.un 3062 30)), (2508, H (.un 3062 30)), (2462, S), (2452, H (.un 2508 5)), (2184, .bi (biIndex hL [2, 2, 2, 0, 0, 0, 1, 0, 0, 2, 0, 1, 1, 0, 1, 2] [1, 2, 1] rfl rfl)), (2111, S), (2108, .bi (biRepr hL [1, 2, 1] rfl rfl)), (2104, H (.un 2452 18)), (2059, H (.un 2452 18)), (2013, S), (2003, H (.un 2059 5)), (1735, .bi (biIndex hL [2, 2, 2, 0, 0, 0, 1, 0, 0, 2, 0, 1, 1, 0, 1, 2] [1, 2, 2] rfl rfl)), (1662, S), (1659, .bi (biRepr hL [1, 2, 2] rfl rfl)), (1655, H (.un 2003 18)), (1610, H (.un 2003 18)), (1564, S), (1554, H (.un 1610 5)), (1369, S), (1315, S), (1260, S), (1257, .bi (biIter hL [0, 1, 2] rfl)), (1249, .comp .ascii), (1125, .bi (biIndex hL [2, 2, 2, 0, 0, 0, 1, 0, 0, 2, 0, 1, 1, 0, 1, 2, 0] [2, 0, 0] rfl rfl)), (1085, S), (1082, .bi (biIter hL [2, 2] rfl)), (1067, S), (1047, S), (966, S), (963, .bi (biEq hL [2, 0, 0] [2, 0, 0] rfl rfl)), (834, .bi (biIndex hL [2, 2, 2, 0, 0, 0, 1, 0, 0, 2, 0, 1, 1, 0, 1, 2, 0] [2, 0, 1] rfl rfl)), (794, S), (791, .bi (biIter hL [2, 2, 2, 0, 0, 0, 1, 0, 0] rfl)), (776, S), (756, S), (736, S), (716, S), (696, S), (676, S), (656, S), (636, S), (616, S), (535, S), (532, .bi (biEq hL [2, 0, 1] [2, 0, 1] rfl rfl)), (403, .bi (biIndex hL [2, 2, 2, 0, 0, 0, 1, 0, 0, 2, 0, 1, 1, 0, 1, 2, 0] [2, 0, 2] rfl rfl)), (330, S), (327, .bi (biRepr hL [2, 0, 2] rfl rfl)), (323, H (.un 1554 90)), (278, H (.un 1554 90)), (232, S), (222, H (.un 278 5)), (37, S), (1, .meet)]
theorem re_grow81_4_t (b : Pk) (L : Lt) (hL : LtOk L 3) : NextT (b.V z0.1) (re_grow81_4 z0.1 b.w L) (re_grow81_5 z0.1 b.w L) 4254 (re_grow81_4_h z0.1 b.w L hL) ⟨none, [(2998, .un 222), (2992, .un 278), (2987, .un 323), (2896, .un 1554), (2890, .un 1610), (2885, .un 1655), (2866, .un 2003), (2860, .un 2059), (2855, .un 2104), (2836, .un 2452), (2830, .un 2508), (2825, .un 2553), (2794, .un 3062), (2788, .un 3118), (2783, .un 3163), (2689, .cnt)]⟩ := by intro R p i τ υ; kernel_rfl
theorem re_grow81_4_ok (b : Pk) (O : (b.V z0.1).Ok) (L : Lt) (hL : LtOk L 3) (hB : Bnd L) : (re_grow81_4 z0.1 b.w L).Ok (b.V z0.1) := okN O (re_grow81_4_t b L hL) (re_grow81_5_ok b O L hL hB) ⟨rfl, rfl, rfl, rfl⟩ (met .nil (by kernel_rfl))
noncomputable def re_grow81_3 (K : Params → KT) (w : World) (L : Lt) : Ctr := ⟨rex83 K w L, fun τ => dF (rex83 K w L τ).code, rel102 K w L, rec94 K w L, 1331, fun τ => (.ret (.str (rel L [2, 2, 2, 0, 0, 0, 1, 0, 0, 2, 0, 1, 1, 0, 1, 2, 0, 2, 1, 0, 2, 2, 1, 1, 1, 2, 1, 2, 2]) (τ 4352))), rel127 K w L, rec94 K w L, 2063⟩
noncomputable def re_grow81_3_h (K : Params → KT) (w : World) (L : Lt) (hL : LtOk L 3) : List (Nat × Act) := [(4331, S), (4276, S), (4273, .bi (biIter hL [0, 1, 2] rfl)), (4265, .comp .ascii), (4141, .bi (biIndex hL [2, 2, 2, 0, 0, 0, 1, 0, 0, 2, 0, 1] [0, 1, 0] rfl rfl)), (4101, S), (4098, .bi (biIter hL [2, 2, 2, 0, 0] rfl)), (4083, S), (4063, S), (4043, S), (4023, S), (4003, S), (3922, S), (3919, .bi (biEq hL [0, 1, 0] [0, 1, 0] rfl rfl)), (3790, .bi (biIndex hL [2, 2, 2, 0, 0, 0, 1, 0, 0, 2, 0, 1] [0, 1, 1] rfl rfl)), (3717, S), (3714, .bi (biRepr hL [0, 1, 1] rfl rfl)), (3710, H (.cnt 54)), (3665, H (.cnt 54)), (3619, S), (3609, H (.un 3665 5)), (3341, .bi (biIndex hL [2, 2, 2, 0, 0, 0, 1, 0, 0, 2, 0, 1] [0, 1, 2] rfl rfl)), (3268, S), (3265, .bi (biRepr hL [0, 1, 2] rfl rfl)), (3261, H (.un 3609 18)), (3216, H (.un 3609 18)), (3170, S), (3160, H (.un 3216 5)), (2975, S), (2921, S), (2866, S), (2863, .bi (biIter hL [0, 1, 2] rfl)), (2855, .comp .ascii), (2731, .bi (biIndex hL [2, 2, 2, 0, 0, 0, 1, 0, 0, 2, 0, 1, 1] [1, 1, 0] rfl rfl)), (2658, S), (2655, .bi (biRepr hL [1, 1, 0] rfl rfl)), (2651, H (.un 3160 30)), (2606, H (.un 3160 30)), (2560, S), (2550, H (.un 2606 5)), (2282, .bi (biIndex hL [2, 2, 2, 0, 0, 0, 1, 0, 0, 2, 0, 1, 1] [1, 1, 1] rfl rfl)), (2209, S), (2206, .bi (biRepr hL [1, 1, 1] rfl rfl)), (2202, H (.un 2550 18)), (2157, H (.un 2550 18)), (2111, S), (2101, H (.un 2157 5)), (1833, .bi (biIndex hL [2, 2, 2, 0, 0, 0, 1, 0, 0, 2, 0, 1, 1] [1, 1, 2] rfl rfl)), (1760, S), (1757, .bi (biRepr hL [1, 1, 2] rfl rfl)), (1753, H (.un 2101 18)), (1708, H (.un 2101 18)), (1662, S), (1652, H (.un 1708 5)), (1467, S), (1413, S), (1358, S), (1355, .bi (biIter hL [0, 1, 2] rfl)), (1347, .comp .ascii), (1223, .bi (biIndex hL [2, 2, 2, 0, 0, 0, 1, 0, 0, 2, 0, 1, 1, 0] [1, 0, 0] rfl rfl)), (1183, S), (1180, .bi (biIter hL [2, 2, 2, 0, 0, 0] rfl)), (1165, S), (1145, S), (1125, S), (1105, S), (1085, S), (1065, S), (984, S), (981, .bi (biEq hL [1, 0, 0] [1, 0, 0] rfl rfl)), (852, .bi (biIndex hL [2, 2, 2, 0, 0, 0, 1, 0, 0, 2, 0, 1, 1, 0] [1, 0, 1] rfl rfl)), (779, S), (776, .bi (biRepr hL [1, 0, 1] rfl rfl)), (772, H (.un 1652 61)), (727, H (.un 1652 61)), (681, S), (671, H (.un 727 5)), (403, .bi (biIndex hL [2, 2, 2, 0, 0, 0, 1, 0, 0, 2, 0, 1, 1, 0] [1, 0, 2] rfl rfl)), (330, S), (327, .bi (biRepr hL [1, 0, 2] rfl rfl)), (323, H (.un 671 18)), (278, H (.un 671 18)), (232, S), (222, H (.un 278 5)), (37, S), (1, .meet)]
theorem re_grow81_3_t (b : Pk) (L : Lt) (hL : LtOk L 3) : NextT (b.V z0.1) (re_grow81_3 z0.1 b.w L) (re_grow81_4 z0.1 b.w L) 4350 (re_grow81_3_h z0.1 b.w L hL) ⟨none, [(2684, .un 222), (2678, .un 278), (2673, .un 323), (2654, .un 671), (2648, .un 727), (2643, .un 772), (2581, .un 1652), (2575, .un 1708), (2570, .un 1753), (2551, .un 2101), (2545, .un 2157), (2540, .un 2202), (2521, .un 2550), (2515, .un 2606), (2510, .un 2651), (2479, .un 3160), (2473, .un 3216), (2468, .un 3261), (2449, .un 3609), (2443, .un 3665), (2438, .un 3710), (2383, .cnt)]⟩ := by intro R p i τ υ; kernel_rfl
theorem re_grow81_3_ok (b : Pk) (O : (b.V z0.1).Ok) (L : Lt) (hL : LtOk L 3) (hB : Bnd L) : (re_grow81_3 z0.1 b.w L).Ok (b.V z0.1) := okN O (re_grow81_3_t b L hL) (re_grow81_4_ok b O L hL hB) ⟨rfl, rfl, rfl, rfl⟩ (met .nil (by kernel_rfl))
noncomputable def re_grow81_2 (K : Params → KT) (w : World) (L : Lt) : Ctr := ⟨rex83 K w L, fun τ => dF (rex83 K w L τ).code, rel98 K w L, rec94 K w L, 1202, fun τ => (.ret (.str (rel L [2, 2, 2, 0, 0, 0, 1, 0, 0, 2, 0, 1, 1, 0, 1, 2, 0, 2, 1, 0, 2, 2, 1, 1, 1, 2, 1, 2, 2]) (τ 4352))), rel127 K w L, rec94 K w L, 2063⟩
noncomputable def re_grow81_2_h (K : Params → KT) (w : World) (L : Lt) (hL : LtOk L 3) : List (Nat × Act) := [(4093, S), (4038, S), (4035, .bi (biIter hL [0, 1, 2] rfl)), (4027, .comp .ascii), (3903, .bi (biIndex hL [2, 2, 2, 0, 0, 0, 1, 0, 0] [0, 0, 0] rfl rfl)), (3863, S), (3860, .bi (biIter hL [2, 2, 2] rfl)), (3845, S), (3825, S), (3805, S), (3724, S), (3721, .bi (biEq hL [0, 0, 0] [0, 0, 0] rfl rfl)), (3592, .bi (biIndex hL [2, 2, 2, 0, 0, 0, 1, 0, 0] [0, 0, 1] rfl rfl)), (3552, S), (3549, .bi (biIter hL [2, 2, 2, 0] rfl)), (3534, S), (3514, S), (3494, S), (3474, S), (3393, S), (3390, .bi (biEq hL [0, 0, 1] [0, 0, 1] rfl rfl)), (3261, .bi (biIndex hL [2, 2, 2, 0, 0, 0, 1, 0, 0] [0, 0, 2] rfl rfl)), (3188, S), (3185, .bi (biRepr hL [0, 0, 2] rfl rfl)), (3181, H (.cnt 77)), (3136, H (.cnt 77)), (3090, S), (3080, H (.un 3136 5)), (2895, S), (2841, S), (2786, S), (2783, .bi (biIter hL [0, 1, 2] rfl)), (2775, .comp .ascii), (2651, .bi (biIndex hL [2, 2, 2, 0, 0, 0, 1, 0, 0, 2] [0, 2, 0] rfl rfl)), (2578, S), (2575, .bi (biRepr hL [0, 2, 0] rfl rfl)), (2571, H (.un 3080 30)), (2526, H (.un 3080 30)), (2480, S), (2470, H (.un 2526 5)), (2202, .bi (biIndex hL [2, 2, 2, 0, 0, 0, 1, 0, 0, 2] [0, 2, 1] rfl rfl)), (2129, S), (2126, .bi (biRepr hL [0, 2, 1] rfl rfl)), (2122, H (.un 2470 18)), (2077, H (.un 2470 18)), (2031, S), (2021, H (.un 2077 5)), (1753, .bi (biIndex hL [2, 2, 2, 0, 0, 0, 1, 0, 0, 2] [0, 2, 2] rfl rfl)), (1680, S), (1677, .bi (biRepr hL [0, 2, 2] rfl rfl)), (1673, H (.un 2021 18)), (1628, H (.un 2021 18)), (1582, S), (1572, H (.un 1628 5)), (1387, S), (1333, S), (1278, S), (1275, .bi (biIter hL [0, 1, 2] rfl)), (1267, .comp .ascii), (1143, .bi (biIndex hL [2, 2, 2, 0, 0, 0, 1, 0, 0, 2, 0] [2, 0, 0] rfl rfl)), (1103, S), (1100, .bi (biIter hL [2, 2] rfl)), (1085, S), (1065, S), (984, S), (981, .bi (biEq hL [2, 0, 0] [2, 0, 0] rfl rfl)), (852, .bi (biIndex hL [2, 2, 2, 0, 0, 0, 1, 0, 0, 2, 0] [2, 0, 1] rfl rfl)), (779, S), (776, .bi (biRepr hL [2, 0, 1] rfl rfl)), (772, H (.un 1572 53)), (727, H (.un 1572 53)), (681, S), (671, H (.un 727 5)), (403, .bi (biIndex hL [2, 2, 2, 0, 0, 0, 1, 0, 0, 2, 0] [2, 0, 2] rfl rfl)), (330, S), (327, .bi (biRepr hL [2, 0, 2] rfl rfl)), (323, H (.un 671 18)), (278, H (.un 671 18)), (232, S), (222, H (.un 278 5)), (37, S), (1, .meet)]
theorem re_grow81_2_t (b : Pk) (L : Lt) (hL : LtOk L 3) : NextT (b.V z0.1) (re_grow81_2 z0.1 b.w L) (re_grow81_3 z0.1 b.w L) 4112 (re_grow81_2_h z0.1 b.w L hL) ⟨none, [(2378, .un 222), (2372, .un 278), (2367, .un 323), (2348, .un 671), (2342, .un 727), (2337, .un 772), (2283, .un 1572), (2277, .un 1628), (2272, .un 1673), (2253, .un 2021), (2247, .un 2077), (2242, .un 2122), (2223, .un 2470), (2217, .un 2526), (2212, .un 2571), (2181, .un 3080), (2175, .un 3136), (2170, .un 3181), (2092, .cnt)]⟩ := by intro R p i τ υ; kernel_rfl
theorem re_grow81_2_ok (b : Pk) (O : (b.V z0.1).Ok) (L : Lt) (hL : LtOk L 3) (hB : Bnd L) : (re_grow81_2 z0.1 b.w L).Ok (b.V z0.1) := okN O (re_grow81_2_t b L hL) (re_grow81_3_ok b O L hL hB) ⟨rfl, rfl, rfl, rfl⟩ (met .nil (by kernel_rfl))
noncomputable def re_grow81_1 (K : Params → KT) (w : World) (L : Lt) : Ctr := ⟨rex83 K w L, fun τ => dF (rex83 K w L τ).code, rel93 K w L, rec94 K w L, 1061, fun τ => (.ret (.str (rel L [2, 2, 2, 0, 0, 0, 1, 0, 0, 2, 0, 1, 1, 0, 1, 2, 0, 2, 1, 0, 2, 2, 1, 1, 1, 2, 1, 2, 2]) (τ 4352))), rel127 K w L, rec94 K w L, 2063⟩
noncomputable def re_grow81_1_h (K : Params → KT) (w : World) (L : Lt) (hL : LtOk L 3) : List (Nat × Act) := [(4369, S), (4314, S), (4311, .bi (biIter hL [0, 1, 2] rfl)), (4303, .comp .ascii), (4179, .bi (biIndex hL [2, 2, 2, 0, 0, 0] [0, 0, 0] rfl rfl)), (4139, S), (4136, .bi (biIter hL [2, 2, 2] rfl)), (4121, S), (4101, S), (4081, S), (4000, S), (3997, .bi (biEq hL [0, 0, 0] [0, 0, 0] rfl rfl)), (3868, .bi (biIndex hL [2, 2, 2, 0, 0, 0] [0, 0, 1] rfl rfl)), (3795, S), (3792, .bi (biRepr hL [0, 0, 1] rfl rfl)), (3788, H (.cnt 50)), (3743, H (.cnt 50)), (3697, S), (3687, H (.un 3743 5)), (3419, .bi (biIndex hL [2, 2, 2, 0, 0, 0] [0, 0, 2] rfl rfl)), (3346, S), (3343, .bi (biRepr hL [0, 0, 2] rfl rfl)), (3339, H (.un 3687 18)), (3294, H (.un 3687 18)), (3248, S), (3238, H (.un 3294 5)), (3053, S), (2999, S), (2944, S), (2941, .bi (biIter hL [0, 1, 2] rfl)), (2933, .comp .ascii), (2809, .bi (biIndex hL [2, 2, 2, 0, 0, 0, 1] [0, 1, 0] rfl rfl)), (2736, S), (2733, .bi (biRepr hL [0, 1, 0] rfl rfl)), (2729, H (.un 3238 30)), (2684, H (.un 3238 30)), (2638, S), (2628, H (.un 2684 5)), (2360, .bi (biIndex hL [2, 2, 2, 0, 0, 0, 1] [0, 1, 1] rfl rfl)), (2287, S), (2284, .bi (biRepr hL [0, 1, 1] rfl rfl)), (2280, H (.un 2628 18)), (2235, H (.un 2628 18)), (2189, S), (2179, H (.un 2235 5)), (1911, .bi (biIndex hL [2, 2, 2, 0, 0, 0, 1] [0, 1, 2] rfl rfl)), (1838, S), (1835, .bi (biRepr hL [0, 1, 2] rfl rfl)), (1831, H (.un 2179 18)), (1786, H (.un 2179 18)), (1740, S), (1730, H (.un 1786 5)), (1545, S), (1491, S), (1436, S), (1433, .bi (biIter hL [0, 1, 2] rfl)), (1425, .comp .ascii), (1301, .bi (biIndex hL [2, 2, 2, 0, 0, 0, 1, 0] [1, 0, 0] rfl rfl)), (1228, S), (1225, .bi (biRepr hL [1, 0, 0] rfl rfl)), (1221, H (.un 1730 30)), (1176, H (.un 1730 30)), (1130, S), (1120, H (.un 1176 5)), (852, .bi (biIndex hL [2, 2, 2, 0, 0, 0, 1, 0] [1, 0, 1] rfl rfl)), (779, S), (776, .bi (biRepr hL [1, 0, 1] rfl rfl)), (772, H (.un 1120 18)), (727, H (.un 1120 18)), (681, S), (671, H (.un 727 5)), (403, .bi (biIndex hL [2, 2, 2, 0, 0, 0, 1, 0] [1, 0, 2] rfl rfl)), (330, S), (327, .bi (biRepr hL [1, 0, 2] rfl rfl)), (323, H (.un 671 18)), (278, H (.un 671 18)), (232, S), (222, H (.un 278 5)), (37, S), (1, .meet)]
theorem re_grow81_1_t (b : Pk) (L : Lt) (hL : LtOk L 3) : NextT (b.V z0.1) (re_grow81_1 z0.1 b.w L) (re_grow81_2 z0.1 b.w L) 4388 (re_grow81_1_h z0.1 b.w L hL) ⟨none, [(2087, .un 222), (2081, .un 278), (2076, .un 323), (2057, .un 671), (2051, .un 727), (2046, .un 772), (2027, .un 1120), (2021, .un 1176), (2016, .un 1221), (1985, .un 1730), (1979, .un 1786), (1974, .un 1831), (1955, .un 2179), (1949, .un 2235), (1944, .un 2280), (1925, .un 2628), (1919, .un 2684), (1914, .un 2729), (1883, .un 3238), (1877, .un 3294), (1872, .un 3339), (1853, .un 3687), (1847, .un 3743), (1842, .un 3788), (1791, .cnt)]⟩ := by intro R p i τ υ; kernel_rfl
theorem re_grow81_1_ok (b : Pk) (O : (b.V z0.1).Ok) (L : Lt) (hL : LtOk L 3) (hB : Bnd L) : (re_grow81_1 z0.1 b.w L).Ok (b.V z0.1) := okN O (re_grow81_1_t b L hL) (re_grow81_2_ok b O L hL hB) ⟨rfl, rfl, rfl, rfl⟩ (met .nil (by kernel_rfl))
noncomputable def re_grow81_0 (K : Params → KT) (w : World) (L : Lt) : Ctr := ⟨rex83 K w L, fun τ => dF (rex83 K w L τ).code, rel87 K w L, rec2 K w L, 914, fun τ => (.ret (.str (rel L [2, 2, 2, 0, 0, 0, 1, 0, 0, 2, 0, 1, 1, 0, 1, 2, 0, 2, 1, 0, 2, 2, 1, 1, 1, 2, 1, 2, 2]) (τ 4352))), rel127 K w L, rec94 K w L, 2063⟩
noncomputable def re_grow81_0_h (K : Params → KT) (w : World) (L : Lt) (hL : LtOk L 3) : List (Nat × Act) := [(4330, S), (4275, S), (4272, .bi (biIter hL [0, 1, 2] rfl)), (4264, .comp .ascii), (4140, .bi (biIndex hL [2, 2, 2] [2, 2, 0] rfl rfl)), (4063, S), (4060, .bi (biRepr hL [2, 2, 0] rfl rfl)), (4056, H (.cnt 25)), (3993, H (.cnt 25)), (3947, S), (3937, H (.un 3993 5)), (3669, .bi (biIndex hL [2, 2, 2] [2, 2, 1] rfl rfl)), (3596, S), (3593, .bi (biRepr hL [2, 2, 1] rfl rfl)), (3589, H (.un 3937 18)), (3544, H (.un 3937 18)), (3498, S), (3488, H (.un 3544 5)), (3220, .bi (biIndex hL [2, 2, 2] [2, 2, 2] rfl rfl)), (3180, S), (3102, S), (3099, .bi (biEq hL [2, 2, 2] [2, 2, 2] rfl rfl)), (3053, S), (2999, S), (2944, S), (2941, .bi (biIter hL [0, 1, 2] rfl)), (2933, .comp .ascii), (2809, .bi (biIndex hL [2, 2, 2, 0] [2, 0, 0] rfl rfl)), (2736, S), (2733, .bi (biRepr hL [2, 0, 0] rfl rfl)), (2729, H (.un 3488 48)), (2684, H (.un 3488 48)), (2638, S), (2628, H (.un 2684 5)), (2360, .bi (biIndex hL [2, 2, 2, 0] [2, 0, 1] rfl rfl)), (2287, S), (2284, .bi (biRepr hL [2, 0, 1] rfl rfl)), (2280, H (.un 2628 18)), (2235, H (.un 2628 18)), (2189, S), (2179, H (.un 2235 5)), (1911, .bi (biIndex hL [2, 2, 2, 0] [2, 0, 2] rfl rfl)), (1838, S), (1835, .bi (biRepr hL [2, 0, 2] rfl rfl)), (1831, H (.un 2179 18)), (1786, H (.un 2179 18)), (1740, S), (1730, H (.un 1786 5)), (1545, S), (1491, S), (1436, S), (1433, .bi (biIter hL [0, 1, 2] rfl)), (1425, .comp .ascii), (1301, .bi (biIndex hL [2, 2, 2, 0, 0] [0, 0, 0] rfl rfl)), (1228, S), (1225, .bi (biRepr hL [0, 0, 0] rfl rfl)), (1221, H (.un 1730 30)), (1176, H (.un 1730 30)), (1130, S), (1120, H (.un 1176 5)), (852, .bi (biIndex hL [2, 2, 2, 0, 0] [0, 0, 1] rfl rfl)), (779, S), (776, .bi (biRepr hL [0, 0, 1] rfl rfl)), (772, H (.un 1120 18)), (727, H (.un 1120 18)), (681, S), (671, H (.un 727 5)), (403, .bi (biIndex hL [2, 2, 2, 0, 0] [0, 0, 2] rfl rfl)), (330, S), (327, .bi (biRepr hL [0, 0, 2] rfl rfl)), (323, H (.un 671 18)), (278, H (.un 671 18)), (232, S), (222, H (.un 278 5)), (37, S), (1, .meet)]
theorem re_grow81_0_t (b : Pk) (L : Lt) (hL : LtOk L 3) : NextT (b.V z0.1) (re_grow81_0 z0.1 b.w L) (re_grow81_1 z0.1 b.w L) 4349 (re_grow81_0_h z0.1 b.w L hL) ⟨none, [(1786, .un 222), (1780, .un 278), (1775, .un 323), (1756, .un 671), (1750, .un 727), (1745, .un 772), (1726, .un 1120), (1720, .un 1176), (1715, .un 1221), (1684, .un 1730), (1678, .un 1786), (1673, .un 1831), (1654, .un 2179), (1648, .un 2235), (1643, .un 2280), (1624, .un 2628), (1618, .un 2684), (1613, .un 2729), (1564, .un 3488), (1558, .un 3544), (1553, .un 3589), (1534, .un 3937), (1528, .un 3993), (1514, .un 4056), (1488, .cnt)]⟩ := by intro R p i τ υ; kernel_rfl
theorem re_grow81_0_ok (b : Pk) (O : (b.V z0.1).Ok) (L : Lt) (hL : LtOk L 3) (hB : Bnd L) : (re_grow81_0 z0.1 b.w L).Ok (b.V z0.1) := okN O (re_grow81_0_t b L hL) (re_grow81_1_ok b O L hL hB) ⟨rfl, rfl, rfl, rfl⟩ (met .nil (by kernel_rfl))
noncomputable def ree128 (K : Params → KT) (w : World) (L : Lt) (τ : Nat → Nat) : Env := ⟨(fdK K w 98).scope, 2076, 3, [], ⟨⟨[97, 50, 98, 95, 98, 97, 115, 101, 54, 52, 46, 60, 108, 111, 99, 97, 108, 115, 62, 46]⟩⟩, some 98, (.ref 97), some 2076, 0⟩
noncomputable def rek129 (K : Params → KT) (w : World) (L : Lt) (τ : Nat → Nat) : Code := loopC (stmtAt (bodyK K w 98) [7]) (.ref 2080) (ree128 K w L τ)
noncomputable def ree130 (K : Params → KT) (w : World) (L : Lt) (τ : Nat → Nat) : Env := ⟨(fdK K w 106).scope, 2074, 3, [], ⟨⟨[98, 54, 52, 100, 101, 99, 111, 100, 101, 46, 60, 108, 111, 99, 97, 108, 115, 62, 46]⟩⟩, some 106, (.ref 105), some 2074, 0⟩
noncomputable def rex131 (K : Params → KT) (w : World) (L : Lt) (τ : Nat → Nat) : PySem.Ctx := ctxC (.call (.ref 90) ⟨[.int (bv L 0) (τ 4592)], []⟩) [((rek129 K w L τ), ⟨98, 18, 98, 37⟩), ((funcC (bodyK K w 98) (ree128 K w L τ)), ⟨84, 19, 84, 29⟩), ((funcC (bodyK K w 106) (ree130 K w L τ)), ⟨137, 11, 137, 46⟩), ((funcC (bodyK K w 135) (ree0 K w L τ)), ⟨187, 11, 187, 88⟩), (callerC, ⟨0, 0, 0, 0⟩)]
noncomputable def re_v128 (K : Params → KT) (w : World) (L : Lt) : FnC := ⟨rex131 K w L, 2081, fun τ => .ret (.int (L.v 0) (τ 4599)), 2082, rec94 K w L, fun _ => []⟩
noncomputable def re_v128_U_h (K : Params → KT) (w : World) (L : Lt) (c : Cls L 0 65 90 65) : List (Nat × Act) := [(23, S), (20, .bi (cLeT c 65 rfl)), (16, S), (13, .bi (cGeT c 90 rfl)), (4, .bi (cSub c 65 rfl))]
theorem re_v128_U_t (b : Pk) (L : Lt) (c : Cls L 0 65 90 65) : FnT (b.V z0.1) (re_v128 z0.1 b.w L) 40 (re_v128_U_h z0.1 b.w L c) ⟨none, [(4595, .cnt)]⟩ := by intro h₁ R p i τ υ; kernel_rfl
theorem re_v128_U_ok (b : Pk) (O : (b.V z0.1).Ok) (L : Lt) (c : Cls L 0 65 90 65) : (re_v128 z0.1 b.w L).Ok (b.V z0.1) := okFn O (re_v128_U_t b L c) (by kernel_rfl) (by kernel_rfl)
theorem re_v128_ok (b : Pk) (O : (b.V z0.1).Ok) (L : Lt) (hL : LtOk L 3) (hB : Bnd L) : (re_v128 z0.1 b.w L).Ok (b.V z0.1) := by
  have z := hB.v0
  rcases cls_of hL (r := 0) rfl with ⟨_, c⟩ | ⟨e, _, c⟩ | ⟨e, _, c⟩ | ⟨e, c⟩ | ⟨e, c⟩
  · exact re_v128_U_ok b O L c
  · omega
  · omega
  · omega
  · omega
noncomputable def rex133 (K : Params → KT) (w : World) (L : Lt) (τ : Nat → Nat) : PySem.Ctx := ctxC (.call (.ref 90) ⟨[.int (bv L 0) (τ 4611)], []⟩) [((rek129 K w L τ), ⟨98, 18, 98, 37⟩), ((funcC (bodyK K w 98) (ree128 K w L τ)), ⟨84, 19, 84, 29⟩), ((funcC (bodyK K w 106) (ree130 K w L τ)), ⟨137, 11, 137, 46⟩), ((funcC (bodyK K w 135) (ree0 K w L τ)), ⟨187, 11, 187, 88⟩), (callerC, ⟨0, 0, 0, 0⟩)]
noncomputable def re_v133 (K : Params → KT) (w : World) (L : Lt) : FnC := ⟨rex133 K w L, 2082, fun τ => .ret (.int (L.v 0) (τ 4618)), 2083, rec94 K w L, fun _ => []⟩
noncomputable def re_v133_U_h (K : Params → KT) (w : World) (L : Lt) (c : Cls L 0 65 90 65) : List (Nat × Act) := [(23, S), (20, .bi (cLeT c 65 rfl)), (16, S), (13, .bi (cGeT c 90 rfl)), (4, .bi (cSub c 65 rfl))]
theorem re_v133_U_t (b : Pk) (L : Lt) (c : Cls L 0 65 90 65) : FnT (b.V z0.1) (re_v133 z0.1 b.w L) 40 (re_v133_U_h z0.1 b.w L c) ⟨none, [(4614, .cnt)]⟩ := by intro h₁ R p i τ υ; kernel_rfl
theorem re_v133_U_ok (b : Pk) (O : (b.V z0.1).Ok) (L : Lt) (c : Cls L 0 65 90 65) : (re_v133 z0.1 b.w L).Ok (b.V z0.1) := okFn O (re_v133_U_t b L c) (by kernel_rfl) (by kernel_rfl)
theorem re_v133_ok (b : Pk) (O : (b.V z0.1).Ok) (L : Lt) (hL : LtOk L 3) (hB : Bnd L) : (re_v133 z0.1 b.w L).Ok (b.V z0.1) := by
  have z := hB.v0
  rcases cls_of hL (r := 0) rfl with ⟨_, c⟩ | ⟨e, _, c⟩ | ⟨e, _, c⟩ | ⟨e, c⟩ | ⟨e, c⟩
  · exact re_v133_U_ok b O L c
  · omega
  · omega
  · omega
  · omega
noncomputable def rex135 (K : Params → KT) (w : World) (L : Lt) (τ : Nat → Nat) : PySem.Ctx := ctxC (.call (.ref 90) ⟨[.int (bv L 0) (τ 4638)], []⟩) [((rek129 K w L τ), ⟨98, 18, 98, 37⟩), ((funcC (bodyK K w 98) (ree128 K w L τ)), ⟨84, 19, 84, 29⟩), ((funcC (bodyK K w 106) (ree130 K w L τ)), ⟨137, 11, 137, 46⟩), ((funcC (bodyK K w 135) (ree0 K w L τ)), ⟨187, 11, 187, 88⟩), (callerC, ⟨0, 0, 0, 0⟩)]
noncomputable def re_v135 (K : Params → KT) (w : World) (L : Lt) : FnC := ⟨rex135 K w L, 2083, fun τ => .ret (.int (L.v 0) (τ 4645)), 2084, rec94 K w L, fun _ => []⟩
noncomputable def re_v135_U_h (K : Params → KT) (w : World) (L : Lt) (c : Cls L 0 65 90 65) : List (Nat × Act) := [(23, S), (20, .bi (cLeT c 65 rfl)), (16, S), (13, .bi (cGeT c 90 rfl)), (4, .bi (cSub c 65 rfl))]
theorem re_v135_U_t (b : Pk) (L : Lt) (c : Cls L 0 65 90 65) : FnT (b.V z0.1) (re_v135 z0.1 b.w L) 40 (re_v135_U_h z0.1 b.w L c) ⟨none, [(4641, .cnt)]⟩ := by intro h₁ R p i τ υ; kernel_rfl
theorem re_v135_U_ok (b : Pk) (O : (b.V z0.1).Ok) (L : Lt) (c : Cls L 0 65 90 65) : (re_v135 z0.1 b.w L).Ok (b.V z0.1) := okFn O (re_v135_U_t b L c) (by kernel_rfl) (by kernel_rfl)
theorem re_v135_ok (b : Pk) (O : (b.V z0.1).Ok) (L : Lt) (hL : LtOk L 3) (hB : Bnd L) : (re_v135 z0.1 b.w L).Ok (b.V z0.1) := by
  have z := hB.v0
  rcases cls_of hL (r := 0) rfl with ⟨_, c⟩ | ⟨e, _, c⟩ | ⟨e, _, c⟩ | ⟨e, c⟩ | ⟨e, c⟩
  · exact re_v135_U_ok b O L c
  · omega
  · omega
  · omega
  · omega
noncomputable def rex137 (K : Params → KT) (w : World) (L : Lt) (τ : Nat → Nat) : PySem.Ctx := ctxC (.call (.ref 90) ⟨[.int (bv L 1) (τ 4666)], []⟩) [((rek129 K w L τ), ⟨98, 18, 98, 37⟩), ((funcC (bodyK K w 98) (ree128 K w L τ)), ⟨84, 19, 84, 29⟩), ((funcC (bodyK K w 106) (ree130 K w L τ)), ⟨137, 11, 137, 46⟩), ((funcC (bodyK K w 135) (ree0 K w L τ)), ⟨187, 11, 187, 88⟩), (callerC, ⟨0, 0, 0, 0⟩)]
noncomputable def re_v137 (K : Params → KT) (w : World) (L : Lt) : FnC := ⟨rex137 K w L, 2084, fun τ => .ret (.int (L.v 1) (τ 4675)), 2085, rec94 K w L, fun _ => []⟩
noncomputable def re_v137_U_h (K : Params → KT) (w : World) (L : Lt) (c : Cls L 1 65 90 65) : List (Nat × Act) := [(23, S), (20, .bi (cLeT c 65 rfl)), (16, S), (13, .bi (cGeT c 90 rfl)), (4, .bi (cSub c 65 rfl))]
theorem re_v137_U_t (b : Pk) (L : Lt) (c : Cls L 1 65 90 65) : FnT (b.V z0.1) (re_v137 z0.1 b.w L) 40 (re_v137_U_h z0.1 b.w L c) ⟨none, [(4671, .cnt)]⟩ := by intro h₁ R p i τ υ; kernel_rfl
theorem re_v137_U_ok (b : Pk) (O : (b.V z0.1).Ok) (L : Lt) (c : Cls L 1 65 90 65) : (re_v137 z0.1 b.w L).Ok (b.V z0.1) := okFn O (re_v137_U_t b L c) (by kernel_rfl) (by kernel_rfl)
noncomputable def re_v137_Lo_h (K : Params → KT) (w : World) (L : Lt) (c : Cls L 1 97 122 71) : List (Nat × Act) := [(40, S), (37, .bi (cLeT c 65 rfl)), (33, S), (30, .bi (cGeF c 90 rfl)), (23, S), (20, .bi (cLeT c 97 rfl)), (16, S), (13, .bi (cGeT c 122 rfl)), (4, .bi (cSub c 71 rfl))]
theorem re_v137_Lo_t (b : Pk) (L : Lt) (c : Cls L 1 97 122 71) : FnT (b.V z0.1) (re_v137 z0.1 b.w L) 57 (re_v137_Lo_h z0.1 b.w L c) ⟨none, [(4669, .cnt)]⟩ := by intro h₁ R p i τ υ; kernel_rfl
theorem re_v137_Lo_ok (b : Pk) (O : (b.V z0.1).Ok) (L : Lt) (c : Cls L 1 97 122 71) : (re_v137 z0.1 b.w L).Ok (b.V z0.1) := okFn O (re_v137_Lo_t b L c) (by kernel_rfl) (by kernel_rfl)
theorem re_v137_ok (b : Pk) (O : (b.V z0.1).Ok) (L : Lt) (hL : LtOk L 3) (hB : Bnd L) : (re_v137 z0.1 b.w L).Ok (b.V z0.1) := by
  have z := hB.v1
  rcases cls_of hL (r := 1) rfl with ⟨_, c⟩ | ⟨e, _, c⟩ | ⟨e, _, c⟩ | ⟨e, c⟩ | ⟨e, c⟩
  · exact re_v137_U_ok b O L c
  · exact re_v137_Lo_ok b O L c
  · omega
  · omega
  · omega
noncomputable def rex139 (K : Params → KT) (w : World) (L : Lt) (τ : Nat → Nat) : PySem.Ctx := ctxC (.call (.ref 90) ⟨[.int (bv L 0) (τ 4693)], []⟩) [((rek129 K w L τ), ⟨98, 18, 98, 37⟩), ((funcC (bodyK K w 98) (ree128 K w L τ)), ⟨84, 19, 84, 29⟩), ((funcC (bodyK K w 106) (ree130 K w L τ)), ⟨137, 11, 137, 46⟩), ((funcC (bodyK K w 135) (ree0 K w L τ)), ⟨187, 11, 187, 88⟩), (callerC, ⟨0, 0, 0, 0⟩)]
noncomputable def re_v139 (K : Params → KT) (w : World) (L : Lt) : FnC := ⟨rex139 K w L, 2085, fun τ => .ret (.int (L.v 0) (τ 4700)), 2086, rec94 K w L, fun _ => []⟩
noncomputable def re_v139_U_h (K : Params → KT) (w : World) (L : Lt) (c : Cls L 0 65 90 65) : List (Nat × Act) := [(23, S), (20, .bi (cLeT c 65 rfl)), (16, S), (13, .bi (cGeT c 90 rfl)), (4, .bi (cSub c 65 rfl))]
theorem re_v139_U_t (b : Pk) (L : Lt) (c : Cls L 0 65 90 65) : FnT (b.V z0.1) (re_v139 z0.1 b.w L) 40 (re_v139_U_h z0.1 b.w L c) ⟨none, [(4696, .cnt)]⟩ := by intro h₁ R p i τ υ; kernel_rfl
theorem re_v139_U_ok (b : Pk) (O : (b.V z0.1).Ok) (L : Lt) (c : Cls L 0 65 90 65) : (re_v139 z0.1 b.w L).Ok (b.V z0.1) := okFn O (re_v139_U_t b L c) (by kernel_rfl) (by kernel_rfl)
theorem re_v139_ok (b : Pk) (O : (b.V z0.1).Ok) (L : Lt) (hL : LtOk L 3) (hB : Bnd L) : (re_v139 z0.1 b.w L).Ok (b.V z0.1) := by
  have z := hB.v0
  rcases cls_of hL (r := 0) rfl with ⟨_, c⟩ | ⟨e, _, c⟩ | ⟨e, _, c⟩ | ⟨e, c⟩ | ⟨e, c⟩
  · exact re_v139_U_ok b O L c
  · omega
  · omega
  · omega
  · omega
noncomputable def rex141 (K : Params → KT) (w : World) (L : Lt) (τ : Nat → Nat) : PySem.Ctx := ctxC (.call (.ref 90) ⟨[.int (bv L 0) (τ 4712)], []⟩) [((rek129 K w L τ), ⟨98, 18, 98, 37⟩), ((funcC (bodyK K w 98) (ree128 K w L τ)), ⟨84, 19, 84, 29⟩), ((funcC (bodyK K w 106) (ree130 K w L τ)), ⟨137, 11, 137, 46⟩), ((funcC (bodyK K w 135) (ree0 K w L τ)), ⟨187, 11, 187, 88⟩), (callerC, ⟨0, 0, 0, 0⟩)]
noncomputable def re_v141 (K : Params → KT) (w : World) (L : Lt) : FnC := ⟨rex141 K w L, 2086, fun τ => .ret (.int (L.v 0) (τ 4719)), 2087, rec94 K w L, fun _ => []⟩
noncomputable def re_v141_U_h (K : Params → KT) (w : World) (L : Lt) (c : Cls L 0 65 90 65) : List (Nat × Act) := [(23, S), (20, .bi (cLeT c 65 rfl)), (16, S), (13, .bi (cGeT c 90 rfl)), (4, .bi (cSub c 65 rfl))]
theorem re_v141_U_t (b : Pk) (L : Lt) (c : Cls L 0 65 90 65) : FnT (b.V z0.1) (re_v141 z0.1 b.w L) 40 (re_v141_U_h z0.1 b.w L c) ⟨none, [(4715, .cnt)]⟩ := by intro h₁ R p i τ υ; kernel_rfl
theorem re_v141_U_ok (b : Pk) (O : (b.V z0.1).Ok) (L : Lt) (c : Cls L 0 65 90 65) : (re_v141 z0.1 b.w L).Ok (b.V z0.1) := okFn O (re_v141_U_t b L c) (by kernel_rfl) (by kernel_rfl)
theorem re_v141_ok (b : Pk) (O : (b.V z0.1).Ok) (L : Lt) (hL : LtOk L 3) (hB : Bnd L) : (re_v141 z0.1 b.w L).Ok (b.V z0.1) := by
  have z := hB.v0
  rcases cls_of hL (r := 0) rfl with ⟨_, c⟩ | ⟨e, _, c⟩ | ⟨e, _, c⟩ | ⟨e, c⟩ | ⟨e, c⟩
  · exact re_v141_U_ok b O L c
  · omega
  · omega
  · omega
  · omega
noncomputable def rex143 (K : Params → KT) (w : World) (L : Lt) (τ : Nat → Nat) : PySem.Ctx := ctxC (.call (.ref 90) ⟨[.int (bv L 2) (τ 4739)], []⟩) [((rek129 K w L τ), ⟨98, 18, 98, 37⟩), ((funcC (bodyK K w 98) (ree128 K w L τ)), ⟨84, 19, 84, 29⟩), ((funcC (bodyK K w 106) (ree130 K w L τ)), ⟨137, 11, 137, 46⟩), ((funcC (bodyK K w 135) (ree0 K w L τ)), ⟨187, 11, 187, 88⟩), (callerC, ⟨0, 0, 0, 0⟩)]
noncomputable def re_v143 (K : Params → KT) (w : World) (L : Lt) : FnC := ⟨rex143 K w L, 2087, fun τ => .ret (.int (L.v 2) (τ 4748)), 2088, rec94 K w L, fun _ => []⟩
noncomputable def re_v143_U_h (K : Params → KT) (w : World) (L : Lt) (c : Cls L 2 65 90 65) : List (Nat × Act) := [(23, S), (20, .bi (cLeT c 65 rfl)), (16, S), (13, .bi (cGeT c 90 rfl)), (4, .bi (cSub c 65 rfl))]
theorem re_v143_U_t (b : Pk) (L : Lt) (c : Cls L 2 65 90 65) : FnT (b.V z0.1) (re_v143 z0.1 b.w L) 40 (re_v143_U_h z0.1 b.w L c) ⟨none, [(4744, .cnt)]⟩ := by intro h₁ R p i τ υ; kernel_rfl
theorem re_v143_U_ok (b : Pk) (O : (b.V z0.1).Ok) (L : Lt) (c : Cls L 2 65 90 65) : (re_v143 z0.1 b.w L).Ok (b.V z0.1) := okFn O (re_v143_U_t b L c) (by kernel_rfl) (by kernel_rfl)
noncomputable def re_v143_Lo_h (K : Params → KT) (w : World) (L : Lt) (c : Cls L 2 97 122 71) : List (Nat × Act) := [(40, S), (37, .bi (cLeT c 65 rfl)), (33, S), (30, .bi (cGeF c 90 rfl)), (23, S), (20, .bi (cLeT c 97 rfl)), (16, S), (13, .bi (cGeT c 122 rfl)), (4, .bi (cSub c 71 rfl))]
theorem re_v143_Lo_t (b : Pk) (L : Lt) (c : Cls L 2 97 122 71) : FnT (b.V z0.1) (re_v143 z0.1 b.w L) 57 (re_v143_Lo_h z0.1 b.w L c) ⟨none, [(4742, .cnt)]⟩ := by intro h₁ R p i τ υ; kernel_rfl
theorem re_v143_Lo_ok (b : Pk) (O : (b.V z0.1).Ok) (L : Lt) (c : Cls L 2 97 122 71) : (re_v143 z0.1 b.w L).Ok (b.V z0.1) := okFn O (re_v143_Lo_t b L c) (by kernel_rfl) (by kernel_rfl)
theorem re_v143_ok (b : Pk) (O : (b.V z0.1).Ok) (L : Lt) (hL : LtOk L 3) (hB : Bnd L) : (re_v143 z0.1 b.w L).Ok (b.V z0.1) := by
  have z := hB.v2
  rcases cls_of hL (r := 2) rfl with ⟨_, c⟩ | ⟨e, _, c⟩ | ⟨e, _, c⟩ | ⟨e, c⟩ | ⟨e, c⟩
  · exact re_v143_U_ok b O L c
  · exact re_v143_Lo_ok b O L c
  · omega
  · omega
  · omega
noncomputable def rex145 (K : Params → KT) (w : World) (L : Lt) (τ : Nat → Nat) : PySem.Ctx := ctxC (.call (.ref 90) ⟨[.int (bv L 0) (τ 4769)], []⟩) [((rek129 K w L τ), ⟨98, 18, 98, 37⟩), ((funcC (bodyK K w 98) (ree128 K w L τ)), ⟨84, 19, 84, 29⟩), ((funcC (bodyK K w 106) (ree130 K w L τ)), ⟨137, 11, 137, 46⟩), ((funcC (bodyK K w 135) (ree0 K w L τ)), ⟨187, 11, 187, 88⟩), (callerC, ⟨0, 0, 0, 0⟩)]
noncomputable def re_v145 (K : Params → KT) (w : World) (L : Lt) : FnC := ⟨rex145 K w L, 2088, fun τ => .ret (.int (L.v 0) (τ 4776)), 2089, rec94 K w L, fun _ => []⟩
noncomputable def re_v145_U_h (K : Params → KT) (w : World) (L : Lt) (c : Cls L 0 65 90 65) : List (Nat × Act) := [(23, S), (20, .bi (cLeT c 65 rfl)), (16, S), (13, .bi (cGeT c 90 rfl)), (4, .bi (cSub c 65 rfl))]
theorem re_v145_U_t (b : Pk) (L : Lt) (c : Cls L 0 65 90 65) : FnT (b.V z0.1) (re_v145 z0.1 b.w L) 40 (re_v145_U_h z0.1 b.w L c) ⟨none, [(4772, .cnt)]⟩ := by intro h₁ R p i τ υ; kernel_rfl
theorem re_v145_U_ok (b : Pk) (O : (b.V z0.1).Ok) (L : Lt) (c : Cls L 0 65 90 65) : (re_v145 z0.1 b.w L).Ok (b.V z0.1) := okFn O (re_v145_U_t b L c) (by kernel_rfl) (by kernel_rfl)
theorem re_v145_ok (b : Pk) (O : (b.V z0.1).Ok) (L : Lt) (hL : LtOk L 3) (hB : Bnd L) : (re_v145 z0.1 b.w L).Ok (b.V z0.1) := by
  have z := hB.v0
  rcases cls_of hL (r := 0) rfl with ⟨_, c⟩ | ⟨e, _, c⟩ | ⟨e, _, c⟩ | ⟨e, c⟩ | ⟨e, c⟩
  · exact re_v145_U_ok b O L c
  · omega
  · omega
  · omega
  · omega
noncomputable def rex147 (K : Params → KT) (w : World) (L : Lt) (τ : Nat → Nat) : PySem.Ctx := ctxC (.call (.ref 90) ⟨[.int (bv L 1) (τ 4794)], []⟩) [((rek129 K w L τ), ⟨98, 18, 98, 37⟩), ((funcC (bodyK K w 98) (ree128 K w L τ)), ⟨84, 19, 84, 29⟩), ((funcC (bodyK K w 106) (ree130 K w L τ)), ⟨137, 11, 137, 46⟩), ((funcC (bodyK K w 135) (ree0 K w L τ)), ⟨187, 11, 187, 88⟩), (callerC, ⟨0, 0, 0, 0⟩)]
noncomputable def re_v147 (K : Params → KT) (w : World) (L : Lt) : FnC := ⟨rex147 K w L, 2089, fun τ => .ret (.int (L.v 1) (τ 4803)), 2090, rec94 K w L, fun _ => []⟩
noncomputable def re_v147_U_h (K : Params → KT) (w : World) (L : Lt) (c : Cls L 1 65 90 65) : List (Nat × Act) := [(23, S), (20, .bi (cLeT c 65 rfl)), (16, S), (13, .bi (cGeT c 90 rfl)), (4, .bi (cSub c 65 rfl))]
theorem re_v147_U_t (b : Pk) (L : Lt) (c : Cls L 1 65 90 65) : FnT (b.V z0.1) (re_v147 z0.1 b.w L) 40 (re_v147_U_h z0.1 b.w L c) ⟨none, [(4799, .cnt)]⟩ := by intro h₁ R p i τ υ; kernel_rfl
theorem re_v147_U_ok (b : Pk) (O : (b.V z0.1).Ok) (L : Lt) (c : Cls L 1 65 90 65) : (re_v147 z0.1 b.w L).Ok (b.V z0.1) := okFn O (re_v147_U_t b L c) (by kernel_rfl) (by kernel_rfl)
noncomputable def re_v147_Lo_h (K : Params → KT) (w : World) (L : Lt) (c : Cls L 1 97 122 71) : List (Nat × Act) := [(40, S), (37, .bi (cLeT c 65 rfl)), (33, S), (30, .bi (cGeF c 90 rfl)), (23, S), (20, .bi (cLeT c 97 rfl)), (16, S), (13, .bi (cGeT c 122 rfl)), (4, .bi (cSub c 71 rfl))]
theorem re_v147_Lo_t (b : Pk) (L : Lt) (c : Cls L 1 97 122 71) : FnT (b.V z0.1) (re_v147 z0.1 b.w L) 57 (re_v147_Lo_h z0.1 b.w L c) ⟨none, [(4797, .cnt)]⟩ := by intro h₁ R p i τ υ; kernel_rfl
theorem re_v147_Lo_ok (b : Pk) (O : (b.V z0.1).Ok) (L : Lt) (c : Cls L 1 97 122 71) : (re_v147 z0.1 b.w L).Ok (b.V z0.1) := okFn O (re_v147_Lo_t b L c) (by kernel_rfl) (by kernel_rfl)
theorem re_v147_ok (b : Pk) (O : (b.V z0.1).Ok) (L : Lt) (hL : LtOk L 3) (hB : Bnd L) : (re_v147 z0.1 b.w L).Ok (b.V z0.1) := by
  have z := hB.v1
  rcases cls_of hL (r := 1) rfl with ⟨_, c⟩ | ⟨e, _, c⟩ | ⟨e, _, c⟩ | ⟨e, c⟩ | ⟨e, c⟩
  · exact re_v147_U_ok b O L c
  · exact re_v147_Lo_ok b O L c
  · omega
  · omega
  · omega
noncomputable def rex149 (K : Params → KT) (w : World) (L : Lt) (τ : Nat → Nat) : PySem.Ctx := ctxC (.call (.ref 90) ⟨[.int (bv L 1) (τ 4815)], []⟩) [((rek129 K w L τ), ⟨98, 18, 98, 37⟩), ((funcC (bodyK K w 98) (ree128 K w L τ)), ⟨84, 19, 84, 29⟩), ((funcC (bodyK K w 106) (ree130 K w L τ)), ⟨137, 11, 137, 46⟩), ((funcC (bodyK K w 135) (ree0 K w L τ)), ⟨187, 11, 187, 88⟩), (callerC, ⟨0, 0, 0, 0⟩)]
noncomputable def re_v149 (K : Params → KT) (w : World) (L : Lt) : FnC := ⟨rex149 K w L, 2090, fun τ => .ret (.int (L.v 1) (τ 4824)), 2091, rec94 K w L, fun _ => []⟩
noncomputable def re_v149_U_h (K : Params → KT) (w : World) (L : Lt) (c : Cls L 1 65 90 65) : List (Nat × Act) := [(23, S), (20, .bi (cLeT c 65 rfl)), (16, S), (13, .bi (cGeT c 90 rfl)), (4, .bi (cSub c 65 rfl))]
theorem re_v149_U_t (b : Pk) (L : Lt) (c : Cls L 1 65 90 65) : FnT (b.V z0.1) (re_v149 z0.1 b.w L) 40 (re_v149_U_h z0.1 b.w L c) ⟨none, [(4820, .cnt)]⟩ := by intro h₁ R p i τ υ; kernel_rfl
theorem re_v149_U_ok (b : Pk) (O : (b.V z0.1).Ok) (L : Lt) (c : Cls L 1 65 90 65) : (re_v149 z0.1 b.w L).Ok (b.V z0.1) := okFn O (re_v149_U_t b L c) (by kernel_rfl) (by kernel_rfl)
noncomputable def re_v149_Lo_h (K : Params → KT) (w : World) (L : Lt) (c : Cls L 1 97 122 71) : List (Nat × Act) := [(40, S), (37, .bi (cLeT c 65 rfl)), (33, S), (30, .bi (cGeF c 90 rfl)), (23, S), (20, .bi (cLeT c 97 rfl)), (16, S), (13, .bi (cGeT c 122 rfl)), (4, .bi (cSub c 71 rfl))]
theorem re_v149_Lo_t (b : Pk) (L : Lt) (c : Cls L 1 97 122 71) : FnT (b.V z0.1) (re_v149 z0.1 b.w L) 57 (re_v149_Lo_h z0.1 b.w L c) ⟨none, [(4818, .cnt)]⟩ := by intro h₁ R p i τ υ; kernel_rfl
theorem re_v149_Lo_ok (b : Pk) (O : (b.V z0.1).Ok) (L : Lt) (c : Cls L 1 97 122 71) : (re_v149 z0.1 b.w L).Ok (b.V z0.1) := okFn O (re_v149_Lo_t b L c) (by kernel_rfl) (by kernel_rfl)
theorem re_v149_ok (b : Pk) (O : (b.V z0.1).Ok) (L : Lt) (hL : LtOk L 3) (hB : Bnd L) : (re_v149 z0.1 b.w L).Ok (b.V z0.1) := by
  have z := hB.v1
  rcases cls_of hL (r := 1) rfl with ⟨_, c⟩ | ⟨e, _, c⟩ | ⟨e, _, c⟩ | ⟨e, c⟩ | ⟨e, c⟩
  · exact re_v149_U_ok b O L c
  · exact re_v149_Lo_ok b O L c
  · omega
  · omega
  · omega
noncomputable def rex151 (K : Params → KT) (w : World) (L : Lt) (τ : Nat → Nat) : PySem.Ctx := ctxC (.call (.ref 90) ⟨[.int (bv L 0) (τ 4844)], []⟩) [((rek129 K w L τ), ⟨98, 18, 98, 37⟩), ((funcC (bodyK K w 98) (ree128 K w L τ)), ⟨84, 19, 84, 29⟩), ((funcC (bodyK K w 106) (ree130 K w L τ)), ⟨137, 11, 137, 46⟩), ((funcC (bodyK K w 135) (ree0 K w L τ)), ⟨187, 11, 187, 88⟩), (callerC, ⟨0, 0, 0, 0⟩)]
noncomputable def re_v151 (K : Params → KT) (w : World) (L : Lt) : FnC := ⟨rex151 K w L, 2091, fun τ => .ret (.int (L.v 0) (τ 4851)), 2092, rec94 K w L, fun _ => []⟩
noncomputable def re_v151_U_h (K : Params → KT) (w : World) (L : Lt) (c : Cls L 0 65 90 65) : List (Nat × Act) := [(23, S), (20, .bi (cLeT c 65 rfl)), (16, S), (13, .bi (cGeT c 90 rfl)), (4, .bi (cSub c 65 rfl))]
theorem re_v151_U_t (b : Pk) (L : Lt) (c : Cls L 0 65 90 65) : FnT (b.V z0.1) (re_v151 z0.1 b.w L) 40 (re_v151_U_h z0.1 b.w L c) ⟨none, [(4847, .cnt)]⟩ := by intro h₁ R p i τ υ; kernel_rfl
theorem re_v151_U_ok (b : Pk) (O : (b.V z0.1).Ok) (L : Lt) (c : Cls L 0 65 90 65) : (re_v151 z0.1 b.w L).Ok (b.V z0.1) := okFn O (re_v151_U_t b L c) (by kernel_rfl) (by kernel_rfl)
theorem re_v151_ok (b : Pk) (O : (b.V z0.1).Ok) (L : Lt) (hL : LtOk L 3) (hB : Bnd L) : (re_v151 z0.1 b.w L).Ok (b.V z0.1) := by
  have z := hB.v0
  rcases cls_of hL (r := 0) rfl with ⟨_, c⟩ | ⟨e, _, c⟩ | ⟨e, _, c⟩ | ⟨e, c⟩ | ⟨e, c⟩
  · exact re_v151_U_ok b O L c
  · omega
  · omega
  · omega
  · omega
noncomputable def rex153 (K : Params → KT) (w : World) (L : Lt) (τ : Nat → Nat) : PySem.Ctx := ctxC (.call (.ref 90) ⟨[.int (bv L 1) (τ 4872)], []⟩) [((rek129 K w L τ), ⟨98, 18, 98, 37⟩), ((funcC (bodyK K w 98) (ree128 K w L τ)), ⟨84, 19, 84, 29⟩), ((funcC (bodyK K w 106) (ree130 K w L τ)), ⟨137, 11, 137, 46⟩), ((funcC (bodyK K w 135) (ree0 K w L τ)), ⟨187, 11, 187, 88⟩), (callerC, ⟨0, 0, 0, 0⟩)]
noncomputable def re_v153 (K : Params → KT) (w : World) (L : Lt) : FnC := ⟨rex153 K w L, 2092, fun τ => .ret (.int (L.v 1) (τ 4881)), 2093, rec94 K w L, fun _ => []⟩
noncomputable def re_v153_U_h (K : Params → KT) (w : World) (L : Lt) (c : Cls L 1 65 90 65) : List (Nat × Act) := [(23, S), (20, .bi (cLeT c 65 rfl)), (16, S), (13, .bi (cGeT c 90 rfl)), (4, .bi (cSub c 65 rfl))]
theorem re_v153_U_t (b : Pk) (L : Lt) (c : Cls L 1 65 90 65) : FnT (b.V z0.1) (re_v153 z0.1 b.w L) 40 (re_v153_U_h z0.1 b.w L c) ⟨none, [(4877, .cnt)]⟩ := by intro h₁ R p i τ υ; kernel_rfl
theorem re_v153_U_ok (b : Pk) (O : (b.V z0.1).Ok) (L : Lt) (c : Cls L 1 65 90 65) : (re_v153 z0.1 b.w L).Ok (b.V z0.1) := okFn O (re_v153_U_t b L c) (by kernel_rfl) (by kernel_rfl)
noncomputable def re_v153_Lo_h (K : Params → KT) (w : World) (L : Lt) (c : Cls L 1 97 122 71) : List (Nat × Act) := [(40, S), (37, .bi (cLeT c 65 rfl)), (33, S), (30, .bi (cGeF c 90 rfl)), (23, S), (20, .bi (cLeT c 97 rfl)), (16, S), (13, .bi (cGeT c 122 rfl)), (4, .bi (cSub c 71 rfl))]
theorem re_v153_Lo_t (b : Pk) (L : Lt) (c : Cls L 1 97 122 71) : FnT (b.V z0.1) (re_v153 z0.1 b.w L) 57 (re_v153_Lo_h z0.1 b.w L c) ⟨none, [(4875, .cnt)]⟩ := by intro h₁ R p i τ υ; kernel_rfl
theorem re_v153_Lo_ok (b : Pk) (O : (b.V z0.1).Ok) (L : Lt) (c : Cls L 1 97 122 71) : (re_v153 z0.1 b.w L).Ok (b.V z0.1) := okFn O (re_v153_Lo_t b L c) (by kernel_rfl) (by kernel_rfl)
theorem re_v153_ok (b : Pk) (O : (b.V z0.1).Ok) (L : Lt) (hL : LtOk L 3) (hB : Bnd L) : (re_v153 z0.1 b.w L).Ok (b.V z0.1) := by
  have z := hB.v1
  rcases cls_of hL (r := 1) rfl with ⟨_, c⟩ | ⟨e, _, c⟩ | ⟨e, _, c⟩ | ⟨e, c⟩ | ⟨e, c⟩
  · exact re_v153_U_ok b O L c
  · exact re_v153_Lo_ok b O L c
  · omega
  · omega
  · omega
noncomputable def rex155 (K : Params → KT) (w : World) (L : Lt) (τ : Nat → Nat) : PySem.Ctx := ctxC (.call (.ref 90) ⟨[.int (bv L 2) (τ 4899)], []⟩) [((rek129 K w L τ), ⟨98, 18, 98, 37⟩), ((funcC (bodyK K w 98) (ree128 K w L τ)), ⟨84, 19, 84, 29⟩), ((funcC (bodyK K w 106) (ree130 K w L τ)), ⟨137, 11, 137, 46⟩), ((funcC (bodyK K w 135) (ree0 K w L τ)), ⟨187, 11, 187, 88⟩), (callerC, ⟨0, 0, 0, 0⟩)]
noncomputable def re_v155 (K : Params → KT) (w : World) (L : Lt) : FnC := ⟨rex155 K w L, 2093, fun τ => .ret (.int (L.v 2) (τ 4908)), 2094, rec94 K w L, fun _ => []⟩
noncomputable def re_v155_U_h (K : Params → KT) (w : World) (L : Lt) (c : Cls L 2 65 90 65) : List (Nat × Act) := [(23, S), (20, .bi (cLeT c 65 rfl)), (16, S), (13, .bi (cGeT c 90 rfl)), (4, .bi (cSub c 65 rfl))]
theorem re_v155_U_t (b : Pk) (L : Lt) (c : Cls L 2 65 90 65) : FnT (b.V z0.1) (re_v155 z0.1 b.w L) 40 (re_v155_U_h z0.1 b.w L c) ⟨none, [(4904, .cnt)]⟩ := by intro h₁ R p i τ υ; kernel_rfl
theorem re_v155_U_ok (b : Pk) (O : (b.V z0.1).Ok) (L : Lt) (c : Cls L 2 65 90 65) : (re_v155 z0.1 b.w L).Ok (b.V z0.1) := okFn O (re_v155_U_t b L c) (by kernel_rfl) (by kernel_rfl)
noncomputable def re_v155_Lo_h (K : Params → KT) (w : World) (L : Lt) (c : Cls L 2 97 122 71) : List (Nat × Act) := [(40, S), (37, .bi (cLeT c 65 rfl)), (33, S), (30, .bi (cGeF c 90 rfl)), (23, S), (20, .bi (cLeT c 97 rfl)), (16, S), (13, .bi (cGeT c 122 rfl)), (4, .bi (cSub c 71 rfl))]
theorem re_v155_Lo_t (b : Pk) (L : Lt) (c : Cls L 2 97 122 71) : FnT (b.V z0.1) (re_v155 z0.1 b.w L) 57 (re_v155_Lo_h z0.1 b.w L c) ⟨none, [(4902, .cnt)]⟩ := by intro h₁ R p i τ υ; kernel_rfl
theorem re_v155_Lo_ok (b : Pk) (O : (b.V z0.1).Ok) (L : Lt) (c : Cls L 2 97 122 71) : (re_v155 z0.1 b.w L).Ok (b.V z0.1) := okFn O (re_v155_Lo_t b L c) (by kernel_rfl) (by kernel_rfl)
theorem re_v155_ok (b : Pk) (O : (b.V z0.1).Ok) (L : Lt) (hL : LtOk L 3) (hB : Bnd L) : (re_v155 z0.1 b.w L).Ok (b.V z0.1) := by
  have z := hB.v2
  rcases cls_of hL (r := 2) rfl with ⟨_, c⟩ | ⟨e, _, c⟩ | ⟨e, _, c⟩ | ⟨e, c⟩ | ⟨e, c⟩
  · exact re_v155_U_ok b O L c
  · exact re_v155_Lo_ok b O L c
  · omega
  · omega
  · omega
noncomputable def rex157 (K : Params → KT) (w : World) (L : Lt) (τ : Nat → Nat) : PySem.Ctx := ctxC (.call (.ref 90) ⟨[.int (bv L 0) (τ 4920)], []⟩) [((rek129 K w L τ), ⟨98, 18, 98, 37⟩), ((funcC (bodyK K w 98) (ree128 K w L τ)), ⟨84, 19, 84, 29⟩), ((funcC (bodyK K w 106) (ree130 K w L τ)), ⟨137, 11, 137, 46⟩), ((funcC (bodyK K w 135) (ree0 K w L τ)), ⟨187, 11, 187, 88⟩), (callerC, ⟨0, 0, 0, 0⟩)]
noncomputable def re_v157 (K : Params → KT) (w : World) (L : Lt) : FnC := ⟨rex157 K w L, 2094, fun τ => .ret (.int (L.v 0) (τ 4927)), 2095, rec94 K w L, fun _ => []⟩
noncomputable def re_v157_U_h (K : Params → KT) (w : World) (L : Lt) (c : Cls L 0 65 90 65) : List (Nat × Act) := [(23, S), (20, .bi (cLeT c 65 rfl)), (16, S), (13, .bi (cGeT c 90 rfl)), (4, .bi (cSub c 65 rfl))]
theorem re_v157_U_t (b : Pk) (L : Lt) (c : Cls L 0 65 90 65) : FnT (b.V z0.1) (re_v157 z0.1 b.w L) 40 (re_v157_U_h z0.1 b.w L c) ⟨none, [(4923, .cnt)]⟩ := by intro h₁ R p i τ υ; kernel_rfl
theorem re_v157_U_ok (b : Pk) (O : (b.V z0.1).Ok) (L : Lt) (c : Cls L 0 65 90 65) : (re_v157 z0.1 b.w L).Ok (b.V z0.1) := okFn O (re_v157_U_t b L c) (by kernel_rfl) (by kernel_rfl)
theorem re_v157_ok (b : Pk) (O : (b.V z0.1).Ok) (L : Lt) (hL : LtOk L 3) (hB : Bnd L) : (re_v157 z0.1 b.w L).Ok (b.V z0.1) := by
  have z := hB.v0
  rcases cls_of hL (r := 0) rfl with ⟨_, c⟩ | ⟨e, _, c⟩ | ⟨e, _, c⟩ | ⟨e, c⟩ | ⟨e, c⟩
  · exact re_v157_U_ok b O L c
  · omega
  · omega
  · omega
  · omega
noncomputable def rex159 (K : Params → KT) (w : World) (L : Lt) (τ : Nat → Nat) : PySem.Ctx := ctxC (.call (.ref 90) ⟨[.int (bv L 2) (τ 4947)], []⟩) [((rek129 K w L τ), ⟨98, 18, 98, 37⟩), ((funcC (bodyK K w 98) (ree128 K w L τ)), ⟨84, 19, 84, 29⟩), ((funcC (bodyK K w 106) (ree130 K w L τ)), ⟨137, 11, 137, 46⟩), ((funcC (bodyK K w 135) (ree0 K w L τ)), ⟨187, 11, 187, 88⟩), (callerC, ⟨0, 0, 0, 0⟩)]
noncomputable def re_v159 (K : Params → KT) (w : World) (L : Lt) : FnC := ⟨rex159 K w L, 2095, fun τ => .ret (.int (L.v 2) (τ 4956)), 2096, rec94 K w L, fun _ => []⟩
noncomputable def re_v159_U_h (K : Params → KT) (w : World) (L : Lt) (c : Cls L 2 65 90 65) : List (Nat × Act) := [(23, S), (20, .bi (cLeT c 65 rfl)), (16, S), (13, .bi (cGeT c 90 rfl)), (4, .bi (cSub c 65 rfl))]
theorem re_v159_U_t (b : Pk) (L : Lt) (c : Cls L 2 65 90 65) : FnT (b.V z0.1) (re_v159 z0.1 b.w L) 40 (re_v159_U_h z0.1 b.w L c) ⟨none, [(4952, .cnt)]⟩ := by intro h₁ R p i τ υ; kernel_rfl
theorem re_v159_U_ok (b : Pk) (O : (b.V z0.1).Ok) (L : Lt) (c : Cls L 2 65 90 65) : (re_v159 z0.1 b.w L).Ok (b.V z0.1) := okFn O (re_v159_U_t b L c) (by kernel_rfl) (by kernel_rfl)
noncomputable def re_v159_Lo_h (K : Params → KT) (w : World) (L : Lt) (c : Cls L 2 97 122 71) : List (Nat × Act) := [(40, S), (37, .bi (cLeT c 65 rfl)), (33, S), (30, .bi (cGeF c 90 rfl)), (23, S), (20, .bi (cLeT c 97 rfl)), (16, S), (13, .bi (cGeT c 122 rfl)), (4, .bi (cSub c 71 rfl))]
theorem re_v159_Lo_t (b : Pk) (L : Lt) (c : Cls L 2 97 122 71) : FnT (b.V z0.1) (re_v159 z0.1 b.w L) 57 (re_v159_Lo_h z0.1 b.w L c) ⟨none, [(4950, .cnt)]⟩ := by intro h₁ R p i τ υ; kernel_rfl
theorem re_v159_Lo_ok (b : Pk) (O : (b.V z0.1).Ok) (L : Lt) (c : Cls L 2 97 122 71) : (re_v159 z0.1 b.w L).Ok (b.V z0.1) := okFn O (re_v159_Lo_t b L c) (by kernel_rfl) (by kernel_rfl)
theorem re_v159_ok (b : Pk) (O : (b.V z0.1).Ok) (L : Lt) (hL : LtOk L 3) (hB : Bnd L) : (re_v159 z0.1 b.w L).Ok (b.V z0.1) := by
  have z := hB.v2
  rcases cls_of hL (r := 2) rfl with ⟨_, c⟩ | ⟨e, _, c⟩ | ⟨e, _, c⟩ | ⟨e, c⟩ | ⟨e, c⟩
  · exact re_v159_U_ok b O L c
  · exact re_v159_Lo_ok b O L c
  · omega
  · omega
  · omega
noncomputable def rex161 (K : Params → KT) (w : World) (L : Lt) (τ : Nat → Nat) : PySem.Ctx := ctxC (.call (.ref 90) ⟨[.int (bv L 1) (τ 4977)], []⟩) [((rek129 K w L τ), ⟨98, 18, 98, 37⟩), ((funcC (bodyK K w 98) (ree128 K w L τ)), ⟨84, 19, 84, 29⟩), ((funcC (bodyK K w 106) (ree130 K w L τ)), ⟨137, 11, 137, 46⟩), ((funcC (bodyK K w 135) (ree0 K w L τ)), ⟨187, 11, 187, 88⟩), (callerC, ⟨0, 0, 0, 0⟩)]
noncomputable def re_v161 (K : Params → KT) (w : World) (L : Lt) : FnC := ⟨rex161 K w L, 2096, fun τ => .ret (.int (L.v 1) (τ 4986)), 2097, rec94 K w L, fun _ => []⟩
noncomputable def re_v161_U_h (K : Params → KT) (w : World) (L : Lt) (c : Cls L 1 65 90 65) : List (Nat × Act) := [(23, S), (20, .bi (cLeT c 65 rfl)), (16, S), (13, .bi (cGeT c 90 rfl)), (4, .bi (cSub c 65 rfl))]
theorem re_v161_U_t (b : Pk) (L : Lt) (c : Cls L 1 65 90 65) : FnT (b.V z0.1) (re_v161 z0.1 b.w L) 40 (re_v161_U_h z0.1 b.w L c) ⟨none, [(4982, .cnt)]⟩ := by intro h₁ R p i τ υ; kernel_rfl
theorem re_v161_U_ok (b : Pk) (O : (b.V z0.1).Ok) (L : Lt) (c : Cls L 1 65 90 65) : (re_v161 z0.1 b.w L).Ok (b.V z0.1) := okFn O (re_v161_U_t b L c) (by kernel_rfl) (by kernel_rfl)
noncomputable def re_v161_Lo_h (K : Params → KT) (w : World) (L : Lt) (c : Cls L 1 97 122 71) : List (Nat × Act) := [(40, S), (37, .bi (cLeT c 65 rfl)), (33, S), (30, .bi (cGeF c 90 rfl)), (23, S), (20, .bi (cLeT c 97 rfl)), (16, S), (13, .bi (cGeT c 122 rfl)), (4, .bi (cSub c 71 rfl))]
theorem re_v161_Lo_t (b : Pk) (L : Lt) (c : Cls L 1 97 122 71) : FnT (b.V z0.1) (re_v161 z0.1 b.w L) 57 (re_v161_Lo_h z0.1 b.w L c) ⟨none, [(4980, .cnt)]⟩ := by intro h₁ R p i τ υ; kernel_rfl
theorem re_v161_Lo_ok (b : Pk) (O : (b.V z0.1).Ok) (L : Lt) (c : Cls L 1 97 122 71) : (re_v161 z0.1 b.w L).Ok (b.V z0.1) := okFn O (re_v161_Lo_t b L c) (by kernel_rfl) (by kernel_rfl)
theorem re_v161_ok (b : Pk) (O : (b.V z0.1).Ok) (L : Lt) (hL : LtOk L 3) (hB : Bnd L) : (re_v161 z0.1 b.w L).Ok (b.V z0.1) := by
  have z := hB.v1
  rcases cls_of hL (r := 1) rfl with ⟨_, c⟩ | ⟨e, _, c⟩ | ⟨e, _, c⟩ | ⟨e, c⟩ | ⟨e, c⟩
  · exact re_v161_U_ok b O L c
  · exact re_v161_Lo_ok b O L c
  · omega
  · omega
  · omega
noncomputable def rex163 (K : Params → KT) (w : World) (L : Lt) (τ : Nat → Nat) : PySem.Ctx := ctxC (.call (.ref 90) ⟨[.int (bv L 0) (τ 5004)], []⟩) [((rek129 K w L τ), ⟨98, 18, 98, 37⟩), ((funcC (bodyK K w 98) (ree128 K w L τ)), ⟨84, 19, 84, 29⟩), ((funcC (bodyK K w 106) (ree130 K w L τ)), ⟨137, 11, 137, 46⟩), ((funcC (bodyK K w 135) (ree0 K w L τ)), ⟨187, 11, 187, 88⟩), (callerC, ⟨0, 0, 0, 0⟩)]
noncomputable def re_v163 (K : Params → KT) (w : World) (L : Lt) : FnC := ⟨rex163 K w L, 2097, fun τ => .ret (.int (L.v 0) (τ 5011)), 2098, rec94 K w L, fun _ => []⟩
noncomputable def re_v163_U_h (K : Params → KT) (w : World) (L : Lt) (c : Cls L 0 65 90 65) : List (Nat × Act) := [(23, S), (20, .bi (cLeT c 65 rfl)), (16, S), (13, .bi (cGeT c 90 rfl)), (4, .bi (cSub c 65 rfl))]
theorem re_v163_U_t (b : Pk) (L : Lt) (c : Cls L 0 65 90 65) : FnT (b.V z0.1) (re_v163 z0.1 b.w L) 40 (re_v163_U_h z0.1 b.w L c) ⟨none, [(5007, .cnt)]⟩ := by intro h₁ R p i τ υ; kernel_rfl
theorem re_v163_U_ok (b : Pk) (O : (b.V z0.1).Ok) (L : Lt) (c : Cls L 0 65 90 65) : (re_v163 z0.1 b.w L).Ok (b.V z0.1) := okFn O (re_v163_U_t b L c) (by kernel_rfl) (by kernel_rfl)
theorem re_v163_ok (b : Pk) (O : (b.V z0.1).Ok) (L : Lt) (hL : LtOk L 3) (hB : Bnd L) : (re_v163 z0.1 b.w L).Ok (b.V z0.1) := by
  have z := hB.v0
  rcases cls_of hL (r := 0) rfl with ⟨_, c⟩ | ⟨e, _, c⟩ | ⟨e, _, c⟩ | ⟨e, c⟩ | ⟨e, c⟩
  · exact re_v163_U_ok b O L c
  · omega
  · omega
  · omega
  · omega
noncomputable def rex165 (K : Params → KT) (w : World) (L : Lt) (τ : Nat → Nat) : PySem.Ctx := ctxC (.call (.ref 90) ⟨[.int (bv L 2) (τ 5023)], []⟩) [((rek129 K w L τ), ⟨98, 18, 98, 37⟩), ((funcC (bodyK K w 98) (ree128 K w L τ)), ⟨84, 19, 84, 29⟩), ((funcC (bodyK K w 106) (ree130 K w L τ)), ⟨137, 11, 137, 46⟩), ((funcC (bodyK K w 135) (ree0 K w L τ)), ⟨187, 11, 187, 88⟩), (callerC, ⟨0, 0, 0, 0⟩)]
noncomputable def re_v165 (K : Params → KT) (w : World) (L : Lt) : FnC := ⟨rex165 K w L, 2098, fun τ => .ret (.int (L.v 2) (τ 5032)), 2099, rec94 K w L, fun _ => []⟩
noncomputable def re_v165_U_h (K : Params → KT) (w : World) (L : Lt) (c : Cls L 2 65 90 65) : List (Nat × Act) := [(23, S), (20, .bi (cLeT c 65 rfl)), (16, S), (13, .bi (cGeT c 90 rfl)), (4, .bi (cSub c 65 rfl))]
theorem re_v165_U_t (b : Pk) (L : Lt) (c : Cls L 2 65 90 65) : FnT (b.V z0.1) (re_v165 z0.1 b.w L) 40 (re_v165_U_h z0.1 b.w L c) ⟨none, [(5028, .cnt)]⟩ := by intro h₁ R p i τ υ; kernel_rfl
theorem re_v165_U_ok (b : Pk) (O : (b.V z0.1).Ok) (L : Lt) (c : Cls L 2 65 90 65) : (re_v165 z0.1 b.w L).Ok (b.V z0.1) := okFn O (re_v165_U_t b L c) (by kernel_rfl) (by kernel_rfl)
noncomputable def re_v165_Lo_h (K : Params → KT) (w : World) (L : Lt) (c : Cls L 2 97 122 71) : List (Nat × Act) := [(40, S), (37, .bi (cLeT c 65 rfl)), (33, S), (30, .bi (cGeF c 90 rfl)), (23, S), (20, .bi (cLeT c 97 rfl)), (16, S), (13, .bi (cGeT c 122 rfl)), (4, .bi (cSub c 71 rfl))]
theorem re_v165_Lo_t (b : Pk) (L : Lt) (c : Cls L 2 97 122 71) : FnT (b.V z0.1) (re_v165 z0.1 b.w L) 57 (re_v165_Lo_h z0.1 b.w L c) ⟨none, [(5026, .cnt)]⟩ := by intro h₁ R p i τ υ; kernel_rfl
theorem re_v165_Lo_ok (b : Pk) (O : (b.V z0.1).Ok) (L : Lt) (c : Cls L 2 97 122 71) : (re_v165 z0.1 b.w L).Ok (b.V z0.1) := okFn O (re_v165_Lo_t b L c) (by kernel_rfl) (by kernel_rfl)
theorem re_v165_ok (b : Pk) (O : (b.V z0.1).Ok) (L : Lt) (hL : LtOk L 3) (hB : Bnd L) : (re_v165 z0.1 b.w L).Ok (b.V z0.1) := by
  have z := hB.v2
  rcases cls_of hL (r := 2) rfl with ⟨_, c⟩ | ⟨e, _, c⟩ | ⟨e, _, c⟩ | ⟨e, c⟩ | ⟨e, c⟩
  · exact re_v165_U_ok b O L c
  · exact re_v165_Lo_ok b O L c
  · omega
  · omega
  · omega
noncomputable def rex167 (K : Params → KT) (w : World) (L : Lt) (τ : Nat → Nat) : PySem.Ctx := ctxC (.call (.ref 90) ⟨[.int (bv L 2) (τ 5052)], []⟩) [((rek129 K w L τ), ⟨98, 18, 98, 37⟩), ((funcC (bodyK K w 98) (ree128 K w L τ)), ⟨84, 19, 84, 29⟩), ((funcC (bodyK K w 106) (ree130 K w L τ)), ⟨137, 11, 137, 46⟩), ((funcC (bodyK K w 135) (ree0 K w L τ)), ⟨187, 11, 187, 88⟩), (callerC, ⟨0, 0, 0, 0⟩)]
noncomputable def re_v167 (K : Params → KT) (w : World) (L : Lt) : FnC := ⟨rex167 K w L, 2099, fun τ => .ret (.int (L.v 2) (τ 5061)), 2100, rec94 K w L, fun _ => []⟩
noncomputable def re_v167_U_h (K : Params → KT) (w : World) (L : Lt) (c : Cls L 2 65 90 65) : List (Nat × Act) := [(23, S), (20, .bi (cLeT c 65 rfl)), (16, S), (13, .bi (cGeT c 90 rfl)), (4, .bi (cSub c 65 rfl))]
theorem re_v167_U_t (b : Pk) (L : Lt) (c : Cls L 2 65 90 65) : FnT (b.V z0.1) (re_v167 z0.1 b.w L) 40 (re_v167_U_h z0.1 b.w L c) ⟨none, [(5057, .cnt)]⟩ := by intro h₁ R p i τ υ; kernel_rfl
theorem re_v167_U_ok (b : Pk) (O : (b.V z0.1).Ok) (L : Lt) (c : Cls L 2 65 90 65) : (re_v167 z0.1 b.w L).Ok (b.V z0.1) := okFn O (re_v167_U_t b L c) (by kernel_rfl) (by kernel_rfl)
noncomputable def re_v167_Lo_h (K : Params → KT) (w : World) (L : Lt) (c : Cls L 2 97 122 71) : List (Nat × Act) := [(40, S), (37, .bi (cLeT c 65 rfl)), (33, S), (30, .bi (cGeF c 90 rfl)), (23, S), (20, .bi (cLeT c 97 rfl)), (16, S), (13, .bi (cGeT c 122 rfl)), (4, .bi (cSub c 71 rfl))]
theorem re_v167_Lo_t (b : Pk) (L : Lt) (c : Cls L 2 97 122 71) : FnT (b.V z0.1) (re_v167 z0.1 b.w L) 57 (re_v167_Lo_h z0.1 b.w L c) ⟨none, [(5055, .cnt)]⟩ := by intro h₁ R p i τ υ; kernel_rfl
theorem re_v167_Lo_ok (b : Pk) (O : (b.V z0.1).Ok) (L : Lt) (c : Cls L 2 97 122 71) : (re_v167 z0.1 b.w L).Ok (b.V z0.1) := okFn O (re_v167_Lo_t b L c) (by kernel_rfl) (by kernel_rfl)
theorem re_v167_ok (b : Pk) (O : (b.V z0.1).Ok) (L : Lt) (hL : LtOk L 3) (hB : Bnd L) : (re_v167 z0.1 b.w L).Ok (b.V z0.1) := by
  have z := hB.v2
  rcases cls_of hL (r := 2) rfl with ⟨_, c⟩ | ⟨e, _, c⟩ | ⟨e, _, c⟩ | ⟨e, c⟩ | ⟨e, c⟩
  · exact re_v167_U_ok b O L c
  · exact re_v167_Lo_ok b O L c
  · omega
  · omega
  · omega
noncomputable def rex169 (K : Params → KT) (w : World) (L : Lt) (τ : Nat → Nat) : PySem.Ctx := ctxC (.call (.ref 90) ⟨[.int (bv L 1) (τ 5082)], []⟩) [((rek129 K w L τ), ⟨98, 18, 98, 37⟩), ((funcC (bodyK K w 98) (ree128 K w L τ)), ⟨84, 19, 84, 29⟩), ((funcC (bodyK K w 106) (ree130 K w L τ)), ⟨137, 11, 137, 46⟩), ((funcC (bodyK K w 135) (ree0 K w L τ)), ⟨187, 11, 187, 88⟩), (callerC, ⟨0, 0, 0, 0⟩)]
noncomputable def re_v169 (K : Params → KT) (w : World) (L : Lt) : FnC := ⟨rex169 K w L, 2100, fun τ => .ret (.int (L.v 1) (τ 5091)), 2101, rec94 K w L, fun _ => []⟩
noncomputable def re_v169_U_h (K : Params → KT) (w : World) (L : Lt) (c : Cls L 1 65 90 65) : List (Nat × Act) := [(23, S), (20, .bi (cLeT c 65 rfl)), (16, S), (13, .bi (cGeT c 90 rfl)), (4, .bi (cSub c 65 rfl))]
theorem re_v169_U_t (b : Pk) (L : Lt) (c : Cls L 1 65 90 65) : FnT (b.V z0.1) (re_v169 z0.1 b.w L) 40 (re_v169_U_h z0.1 b.w L c) ⟨none, [(5087, .cnt)]⟩ := by intro h₁ R p i τ υ; kernel_rfl
theorem re_v169_U_ok (b : Pk) (O : (b.V z0.1).Ok) (L : Lt) (c : Cls L 1 65 90 65) : (re_v169 z0.1 b.w L).Ok (b.V z0.1) := okFn O (re_v169_U_t b L c) (by kernel_rfl) (by kernel_rfl)
noncomputable def re_v169_Lo_h (K : Params → KT) (w : World) (L : Lt) (c : Cls L 1 97 122 71) : List (Nat × Act) := [(40, S), (37, .bi (cLeT c 65 rfl)), (33, S), (30, .bi (cGeF c 90 rfl)), (23, S), (20, .bi (cLeT c 97 rfl)), (16, S), (13, .bi (cGeT c 122 rfl)), (4, .bi (cSub c 71 rfl))]
theorem re_v169_Lo_t (b : Pk) (L : Lt) (c : Cls L 1 97 122 71) : FnT (b.V z0.1) (re_v169 z0.1 b.w L) 57 (re_v169_Lo_h z0.1 b.w L c) ⟨none, [(5085, .cnt)]⟩ := by intro h₁ R p i τ υ; kernel_rfl
theorem re_v169_Lo_ok (b : Pk) (O : (b.V z0.1).Ok) (L : Lt) (c : Cls L 1 97 122 71) : (re_v169 z0.1 b.w L).Ok (b.V z0.1) := okFn O (re_v169_Lo_t b L c) (by kernel_rfl) (by kernel_rfl)
theorem re_v169_ok (b : Pk) (O : (b.V z0.1).Ok) (L : Lt) (hL : LtOk L 3) (hB : Bnd L) : (re_v169 z0.1 b.w L).Ok (b.V z0.1) := by
  have z := hB.v1
  rcases cls_of hL (r := 1) rfl with ⟨_, c⟩ | ⟨e, _, c⟩ | ⟨e, _, c⟩ | ⟨e, c⟩ | ⟨e, c⟩
  · exact re_v169_U_ok b O L c
  · exact re_v169_Lo_ok b O L c
  · omega
  · omega
  · omega
noncomputable def rex171 (K : Params → KT) (w : World) (L : Lt) (τ : Nat → Nat) : PySem.Ctx := ctxC (.call (.ref 90) ⟨[.int (bv L 1) (τ 5109)], []⟩) [((rek129 K w L τ), ⟨98, 18, 98, 37⟩), ((funcC (bodyK K w 98) (ree128 K w L τ)), ⟨84, 19, 84, 29⟩), ((funcC (bodyK K w 106) (ree130 K w L τ)), ⟨137, 11, 137, 46⟩), ((funcC (bodyK K w 135) (ree0 K w L τ)), ⟨187, 11, 187, 88⟩), (callerC, ⟨0, 0, 0, 0⟩)]
noncomputable def re_v171 (K : Params → KT) (w : World) (L : Lt) : FnC := ⟨rex171 K w L, 2101, fun τ => .ret (.int (L.v 1) (τ 5118)), 2102, rec94 K w L, fun _ => []⟩
noncomputable def re_v171_U_h (K : Params → KT) (w : World) (L : Lt) (c : Cls L 1 65 90 65) : List (Nat × Act) := [(23, S), (20, .bi (cLeT c 65 rfl)), (16, S), (13, .bi (cGeT c 90 rfl)), (4, .bi (cSub c 65 rfl))]
theorem re_v171_U_t (b : Pk) (L : Lt) (c : Cls L 1 65 90 65) : FnT (b.V z0.1) (re_v171 z0.1 b.w L) 40 (re_v171_U_h z0.1 b.w L c) ⟨none, [(5114, .cnt)]⟩ := by intro h₁ R p i τ υ; kernel_rfl
theorem re_v171_U_ok (b : Pk) (O : (b.V z0.1).Ok) (L : Lt) (c : Cls L 1 65 90 65) : (re_v171 z0.1 b.w L).Ok (b.V z0.1) := okFn O (re_v171_U_t b L c) (by kernel_rfl) (by kernel_rfl)
noncomputable def re_v171_Lo_h (K : Params → KT) (w : World) (L : Lt) (c : Cls L 1 97 122 71) : List (Nat × Act) := [(40, S), (37, .bi (cLeT c 65 rfl)), (33, S), (30, .bi (cGeF c 90 rfl)), (23, S), (20, .bi (cLeT c 97 rfl)), (16, S), (13, .bi (cGeT c 122 rfl)), (4, .bi (cSub c 71 rfl))]
theorem re_v171_Lo_t (b : Pk) (L : Lt) (c : Cls L 1 97 122 71) : FnT (b.V z0.1) (re_v171 z0.1 b.w L) 57 (re_v171_Lo_h z0.1 b.w L c) ⟨none, [(5112, .cnt)]⟩ := by intro h₁ R p i τ υ; kernel_rfl
theorem re_v171_Lo_ok (b : Pk) (O : (b.V z0.1).Ok) (L : Lt) (c : Cls L 1 97 122 71) : (re_v171 z0.1 b.w L).Ok (b.V z0.1) := okFn O (re_v171_Lo_t b L c) (by kernel_rfl) (by kernel_rfl)
theorem re_v171_ok (b : Pk) (O : (b.V z0.1).Ok) (L : Lt) (hL : LtOk L 3) (hB : Bnd L) : (re_v171 z0.1 b.w L).Ok (b.V z0.1) := by
  have z := hB.v1
  rcases cls_of hL (r := 1) rfl with ⟨_, c⟩ | ⟨e, _, c⟩ | ⟨e, _, c⟩ | ⟨e, c⟩ | ⟨e, c⟩
  · exact re_v171_U_ok b O L c
  · exact re_v171_Lo_ok b O L c
  · omega
  · omega
  · omega
noncomputable def rex173 (K : Params → KT) (w : World) (L : Lt) (τ : Nat → Nat) : PySem.Ctx := ctxC (.call (.ref 90) ⟨[.int (bv L 1) (τ 5130)], []⟩) [((rek129 K w L τ), ⟨98, 18, 98, 37⟩), ((funcC (bodyK K w 98) (ree128 K w L τ)), ⟨84, 19, 84, 29⟩), ((funcC (bodyK K w 106) (ree130 K w L τ)), ⟨137, 11, 137, 46⟩), ((funcC (bodyK K w 135) (ree0 K w L τ)), ⟨187, 11, 187, 88⟩), (callerC, ⟨0, 0, 0, 0⟩)]
noncomputable def re_v173 (K : Params → KT) (w : World) (L : Lt) : FnC := ⟨rex173 K w L, 2102, fun τ => .ret (.int (L.v 1) (τ 5139)), 2103, rec94 K w L, fun _ => []⟩
noncomputable def re_v173_U_h (K : Params → KT) (w : World) (L : Lt) (c : Cls L 1 65 90 65) : List (Nat × Act) := [(23, S), (20, .bi (cLeT c 65 rfl)), (16, S), (13, .bi (cGeT c 90 rfl)), (4, .bi (cSub c 65 rfl))]
theorem re_v173_U_t (b : Pk) (L : Lt) (c : Cls L 1 65 90 65) : FnT (b.V z0.1) (re_v173 z0.1 b.w L) 40 (re_v173_U_h z0.1 b.w L c) ⟨none, [(5135, .cnt)]⟩ := by intro h₁ R p i τ υ; kernel_rfl
theorem re_v173_U_ok (b : Pk) (O : (b.V z0.1).Ok) (L : Lt) (c : Cls L 1 65 90 65) : (re_v173 z0.1 b.w L).Ok (b.V z0.1) := okFn O (re_v173_U_t b L c) (by kernel_rfl) (by kernel_rfl)
noncomputable def re_v173_Lo_h (K : Params → KT) (w : World) (L : Lt) (c : Cls L 1 97 122 71) : List (Nat × Act) := [(40, S), (37, .bi (cLeT c 65 rfl)), (33, S), (30, .bi (cGeF c 90 rfl)), (23, S), (20, .bi (cLeT c 97 rfl)), (16, S), (13, .bi (cGeT c 122 rfl)), (4, .bi (cSub c 71 rfl))]
theorem re_v173_Lo_t (b : Pk) (L : Lt) (c : Cls L 1 97 122 71) : FnT (b.V z0.1) (re_v173 z0.1 b.w L) 57 (re_v173_Lo_h z0.1 b.w L c) ⟨none, [(5133, .cnt)]⟩ := by intro h₁ R p i τ υ; kernel_rfl
theorem re_v173_Lo_ok (b : Pk) (O : (b.V z0.1).Ok) (L : Lt) (c : Cls L 1 97 122 71) : (re_v173 z0.1 b.w L).Ok (b.V z0.1) := okFn O (re_v173_Lo_t b L c) (by kernel_rfl) (by kernel_rfl)
theorem re_v173_ok (b : Pk) (O : (b.V z0.1).Ok) (L : Lt) (hL : LtOk L 3) (hB : Bnd L) : (re_v173 z0.1 b.w L).Ok (b.V z0.1) := by
  have z := hB.v1
  rcases cls_of hL (r := 1) rfl with ⟨_, c⟩ | ⟨e, _, c⟩ | ⟨e, _, c⟩ | ⟨e, c⟩ | ⟨e, c⟩
  · exact re_v173_U_ok b O L c
  · exact re_v173_Lo_ok b O L c
  · omega
  · omega
  · omega
noncomputable def rex175 (K : Params → KT) (w : World) (L : Lt) (τ : Nat → Nat) : PySem.Ctx := ctxC (.call (.ref 90) ⟨[.int (bv L 2) (τ 5159)], []⟩) [((rek129 K w L τ), ⟨98, 18, 98, 37⟩), ((funcC (bodyK K w 98) (ree128 K w L τ)), ⟨84, 19, 84, 29⟩), ((funcC (bodyK K w 106) (ree130 K w L τ)), ⟨137, 11, 137, 46⟩), ((funcC (bodyK K w 135) (ree0 K w L τ)), ⟨187, 11, 187, 88⟩), (callerC, ⟨0, 0, 0, 0⟩)]
noncomputable def re_v175 (K : Params → KT) (w : World) (L : Lt) : FnC := ⟨rex175 K w L, 2103, fun τ => .ret (.int (L.v 2) (τ 5168)), 2104, rec94 K w L, fun _ => []⟩
noncomputable def re_v175_U_h (K : Params → KT) (w : World) (L : Lt) (c : Cls L 2 65 90 65) : List (Nat × Act) := [(23, S), (20, .bi (cLeT c 65 rfl)), (16, S), (13, .bi (cGeT c 90 rfl)), (4, .bi (cSub c 65 rfl))]
theorem re_v175_U_t (b : Pk) (L : Lt) (c : Cls L 2 65 90 65) : FnT (b.V z0.1) (re_v175 z0.1 b.w L) 40 (re_v175_U_h z0.1 b.w L c) ⟨none, [(5164, .cnt)]⟩ := by intro h₁ R p i τ υ; kernel_rfl
theorem re_v175_U_ok (b : Pk) (O : (b.V z0.1).Ok) (L : Lt) (c : Cls L 2 65 90 65) : (re_v175 z0.1 b.w L).Ok (b.V z0.1) := okFn O (re_v175_U_t b L c) (by kernel_rfl) (by kernel_rfl)
noncomputable def re_v175_Lo_h (K : Params → KT) (w : World) (L : Lt) (c : Cls L 2 97 122 71) : List (Nat × Act) := [(40, S), (37, .bi (cLeT c 65 rfl)), (33, S), (30, .bi (cGeF c 90 rfl)), (23, S), (20, .bi (cLeT c 97 rfl)), (16, S), (13, .bi (cGeT c 122 rfl)), (4, .bi (cSub c 71 rfl))]
theorem re_v175_Lo_t (b : Pk) (L : Lt) (c : Cls L 2 97 122 71) : FnT (b.V z0.1) (re_v175 z0.1 b.w L) 57 (re_v175_Lo_h z0.1 b.w L c) ⟨none, [(5162, .cnt)]⟩ := by intro h₁ R p i τ υ; kernel_rfl
theorem re_v175_Lo_ok (b : Pk) (O : (b.V z0.1).Ok) (L : Lt) (c : Cls L 2 97 122 71) : (re_v175 z0.1 b.w L).Ok (b.V z0.1) := okFn O (re_v175_Lo_t b L c) (by kernel_rfl) (by kernel_rfl)
theorem re_v175_ok (b : Pk) (O : (b.V z0.1).Ok) (L : Lt) (hL : LtOk L 3) (hB : Bnd L) : (re_v175 z0.1 b.w L).Ok (b.V z0.1) := by
  have z := hB.v2
  rcases cls_of hL (r := 2) rfl with ⟨_, c⟩ | ⟨e, _, c⟩ | ⟨e, _, c⟩ | ⟨e, c⟩ | ⟨e, c⟩
  · exact re_v175_U_ok b O L c
  · exact re_v175_Lo_ok b O L c
  · omega
  · omega
  · omega
noncomputable def rex177 (K : Params → KT) (w : World) (L : Lt) (τ : Nat → Nat) : PySem.Ctx := ctxC (.call (.ref 90) ⟨[.int (bv L 1) (τ 5189)], []⟩) [((rek129 K w L τ), ⟨98, 18, 98, 37⟩), ((funcC (bodyK K w 98) (ree128 K w L τ)), ⟨84, 19, 84, 29⟩), ((funcC (bodyK K w 106) (ree130 K w L τ)), ⟨137, 11, 137, 46⟩), ((funcC (bodyK K w 135) (ree0 K w L τ)), ⟨187, 11, 187, 88⟩), (callerC, ⟨0, 0, 0, 0⟩)]
noncomputable def re_v177 (K : Params → KT) (w : World) (L : Lt) : FnC := ⟨rex177 K w L, 2104, fun τ => .ret (.int (L.v 1) (τ 5198)), 2105, rec94 K w L, fun _ => []⟩
noncomputable def re_v177_U_h (K : Params → KT) (w : World) (L : Lt) (c : Cls L 1 65 90 65) : List (Nat × Act) := [(23, S), (20, .bi (cLeT c 65 rfl)), (16, S), (13, .bi (cGeT c 90 rfl)), (4, .bi (cSub c 65 rfl))]
theorem re_v177_U_t (b : Pk) (L : Lt) (c : Cls L 1 65 90 65) : FnT (b.V z0.1) (re_v177 z0.1 b.w L) 40 (re_v177_U_h z0.1 b.w L c) ⟨none, [(5194, .cnt)]⟩ := by intro h₁ R p i τ υ; kernel_rfl
theorem re_v177_U_ok (b : Pk) (O : (b.V z0.1).Ok) (L : Lt) (c : Cls L 1 65 90 65) : (re_v177 z0.1 b.w L).Ok (b.V z0.1) := okFn O (re_v177_U_t b L c) (by kernel_rfl) (by kernel_rfl)
noncomputable def re_v177_Lo_h (K : Params → KT) (w : World) (L : Lt) (c : Cls L 1 97 122 71) : List (Nat × Act) := [(40, S), (37, .bi (cLeT c 65 rfl)), (33, S), (30, .bi (cGeF c 90 rfl)), (23, S), (20, .bi (cLeT c 97 rfl)), (16, S), (13, .bi (cGeT c 122 rfl)), (4, .bi (cSub c 71 rfl))]
theorem re_v177_Lo_t (b : Pk) (L : Lt) (c : Cls L 1 97 122 71) : FnT (b.V z0.1) (re_v177 z0.1 b.w L) 57 (re_v177_Lo_h z0.1 b.w L c) ⟨none, [(5192, .cnt)]⟩ := by intro h₁ R p i τ υ; kernel_rfl
theorem re_v177_Lo_ok (b : Pk) (O : (b.V z0.1).Ok) (L : Lt) (c : Cls L 1 97 122 71) : (re_v177 z0.1 b.w L).Ok (b.V z0.1) := okFn O (re_v177_Lo_t b L c) (by kernel_rfl) (by kernel_rfl)
theorem re_v177_ok (b : Pk) (O : (b.V z0.1).Ok) (L : Lt) (hL : LtOk L 3) (hB : Bnd L) : (re_v177 z0.1 b.w L).Ok (b.V z0.1) := by
  have z := hB.v1
  rcases cls_of hL (r := 1) rfl with ⟨_, c⟩ | ⟨e, _, c⟩ | ⟨e, _, c⟩ | ⟨e, c⟩ | ⟨e, c⟩
  · exact re_v177_U_ok b O L c
  · exact re_v177_Lo_ok b O L c
  · omega
  · omega
  · omega
noncomputable def rex179 (K : Params → KT) (w : World) (L : Lt) (τ : Nat → Nat) : PySem.Ctx := ctxC (.call (.ref 90) ⟨[.int (bv L 2) (τ 5216)], []⟩) [((rek129 K w L τ), ⟨98, 18, 98, 37⟩), ((funcC (bodyK K w 98) (ree128 K w L τ)), ⟨84, 19, 84, 29⟩), ((funcC (bodyK K w 106) (ree130 K w L τ)), ⟨137, 11, 137, 46⟩), ((funcC (bodyK K w 135) (ree0 K w L τ)), ⟨187, 11, 187, 88⟩), (callerC, ⟨0, 0, 0, 0⟩)]
noncomputable def re_v179 (K : Params → KT) (w : World) (L : Lt) : FnC := ⟨rex179 K w L, 2105, fun τ => .ret (.int (L.v 2) (τ 5225)), 2106, rec94 K w L, fun _ => []⟩
noncomputable def re_v179_U_h (K : Params → KT) (w : World) (L : Lt) (c : Cls L 2 65 90 65) : List (Nat × Act) := [(23, S), (20, .bi (cLeT c 65 rfl)), (16, S), (13, .bi (cGeT c 90 rfl)), (4, .bi (cSub c 65 rfl))]
theorem re_v179_U_t (b : Pk) (L : Lt) (c : Cls L 2 65 90 65) : FnT (b.V z0.1) (re_v179 z0.1 b.w L) 40 (re_v179_U_h z0.1 b.w L c) ⟨none, [(5221, .cnt)]⟩ := by intro h₁ R p i τ υ; kernel_rfl
theorem re_v179_U_ok (b : Pk) (O : (b.V z0.1).Ok) (L : Lt) (c : Cls L 2 65 90 65) : (re_v179 z0.1 b.w L).Ok (b.V z0.1) := okFn O (re_v179_U_t b L c) (by kernel_rfl) (by kernel_rfl)
noncomputable def re_v179_Lo_h (K : Params → KT) (w : World) (L : Lt) (c : Cls L 2 97 122 71) : List (Nat × Act) := [(40, S), (37, .bi (cLeT c 65 rfl)), (33, S), (30, .bi (cGeF c 90 rfl)), (23, S), (20, .bi (cLeT c 97 rfl)), (16, S), (13, .bi (cGeT c 122 rfl)), (4, .bi (cSub c 71 rfl))]
theorem re_v179_Lo_t (b : Pk) (L : Lt) (c : Cls L 2 97 122 71) : FnT (b.V z0.1) (re_v179 z0.1 b.w L) 57 (re_v179_Lo_h z0.1 b.w L c) ⟨none, [(5219, .cnt)]⟩ := by intro h₁ R p i τ υ; kernel_rfl
theorem re_v179_Lo_ok (b : Pk) (O : (b.V z0.1).Ok) (L : Lt) (c : Cls L 2 97 122 71) : (re_v179 z0.1 b.w L).Ok (b.V z0.1) := okFn O (re_v179_Lo_t b L c) (by kernel_rfl) (by kernel_rfl)
theorem re_v179_ok (b : Pk) (O : (b.V z0.1).Ok) (L : Lt) (hL : LtOk L 3) (hB : Bnd L) : (re_v179 z0.1 b.w L).Ok (b.V z0.1) := by
  have z := hB.v2
  rcases cls_of hL (r := 2) rfl with ⟨_, c⟩ | ⟨e, _, c⟩ | ⟨e, _, c⟩ | ⟨e, c⟩ | ⟨e, c⟩
  · exact re_v179_U_ok b O L c
  · exact re_v179_Lo_ok b O L c
  · omega
  · omega
  · omega
noncomputable def rex181 (K : Params → KT) (w : World) (L : Lt) (τ : Nat → Nat) : PySem.Ctx := ctxC (.call (.ref 90) ⟨[.int (bv L 2) (τ 5237)], []⟩) [((rek129 K w L τ), ⟨98, 18, 98, 37⟩), ((funcC (bodyK K w 98) (ree128 K w L τ)), ⟨84, 19, 84, 29⟩), ((funcC (bodyK K w 106) (ree130 K w L τ)), ⟨137, 11, 137, 46⟩), ((funcC (bodyK K w 135) (ree0 K w L τ)), ⟨187, 11, 187, 88⟩), (callerC, ⟨0, 0, 0, 0⟩)]
noncomputable def re_v181 (K : Params → KT) (w : World) (L : Lt) : FnC := ⟨rex181 K w L, 2106, fun τ => .ret (.int (L.v 2) (τ 5246)), 2107, rec94 K w L, fun _ => []⟩
noncomputable def re_v181_U_h (K : Params → KT) (w : World) (L : Lt) (c : Cls L 2 65 90 65) : List (Nat × Act) := [(23, S), (20, .bi (cLeT c 65 rfl)), (16, S), (13, .bi (cGeT c 90 rfl)), (4, .bi (cSub c 65 rfl))]
theorem re_v181_U_t (b : Pk) (L : Lt) (c : Cls L 2 65 90 65) : FnT (b.V z0.1) (re_v181 z0.1 b.w L) 40 (re_v181_U_h z0.1 b.w L c) ⟨none, [(5242, .cnt)]⟩ := by intro h₁ R p i τ υ; kernel_rfl
theorem re_v181_U_ok (b : Pk) (O : (b.V z0.1).Ok) (L : Lt) (c : Cls L 2 65 90 65) : (re_v181 z0.1 b.w L).Ok (b.V z0.1) := okFn O (re_v181_U_t b L c) (by kernel_rfl) (by kernel_rfl)
noncomputable def re_v181_Lo_h (K : Params → KT) (w : World) (L : Lt) (c : Cls L 2 97 122 71) : List (Nat × Act) := [(40, S), (37, .bi (cLeT c 65 rfl)), (33, S), (30, .bi (cGeF c 90 rfl)), (23, S), (20, .bi (cLeT c 97 rfl)), (16, S), (13, .bi (cGeT c 122 rfl)), (4, .bi (cSub c 71 rfl))]
theorem re_v181_Lo_t (b : Pk) (L : Lt) (c : Cls L 2 97 122 71) : FnT (b.V z0.1) (re_v181 z0.1 b.w L) 57 (re_v181_Lo_h z0.1 b.w L c) ⟨none, [(5240, .cnt)]⟩ := by intro h₁ R p i τ υ; kernel_rfl
theorem re_v181_Lo_ok (b : Pk) (O : (b.V z0.1).Ok) (L : Lt) (c : Cls L 2 97 122 71) : (re_v181 z0.1 b.w L).Ok (b.V z0.1) := okFn O (re_v181_Lo_t b L c) (by kernel_rfl) (by kernel_rfl)
theorem re_v181_ok (b : Pk) (O : (b.V z0.1).Ok) (L : Lt) (hL : LtOk L 3) (hB : Bnd L) : (re_v181 z0.1 b.w L).Ok (b.V z0.1) := by
  have z := hB.v2
  rcases cls_of hL (r := 2) rfl with ⟨_, c⟩ | ⟨e, _, c⟩ | ⟨e, _, c⟩ | ⟨e, c⟩ | ⟨e, c⟩
  · exact re_v181_U_ok b O L c
  · exact re_v181_Lo_ok b O L c
  · omega
  · omega
  · omega
noncomputable def rex183 (K : Params → KT) (w : World) (L : Lt) (τ : Nat → Nat) : PySem.Ctx := ctxC (.call (.ref 90) ⟨[.int (bv L 2) (τ 5266)], []⟩) [((rek129 K w L τ), ⟨98, 18, 98, 37⟩), ((funcC (bodyK K w 98) (ree128 K w L τ)), ⟨84, 19, 84, 29⟩), ((funcC (bodyK K w 106) (ree130 K w L τ)), ⟨137, 11, 137, 46⟩), ((funcC (bodyK K w 135) (ree0 K w L τ)), ⟨187, 11, 187, 88⟩), (callerC, ⟨0, 0, 0, 0⟩)]
noncomputable def re_v183 (K : Params → KT) (w : World) (L : Lt) : FnC := ⟨rex183 K w L, 2107, fun τ => .ret (.int (L.v 2) (τ 5275)), 2108, rec94 K w L, fun _ => []⟩
noncomputable def re_v183_U_h (K : Params → KT) (w : World) (L : Lt) (c : Cls L 2 65 90 65) : List (Nat × Act) := [(23, S), (20, .bi (cLeT c 65 rfl)), (16, S), (13, .bi (cGeT c 90 rfl)), (4, .bi (cSub c 65 rfl))]
theorem re_v183_U_t (b : Pk) (L : Lt) (c : Cls L 2 65 90 65) : FnT (b.V z0.1) (re_v183 z0.1 b.w L) 40 (re_v183_U_h z0.1 b.w L c) ⟨none, [(5271, .cnt)]⟩ := by intro h₁ R p i τ υ; kernel_rfl
theorem re_v183_U_ok (b : Pk) (O : (b.V z0.1).Ok) (L : Lt) (c : Cls L 2 65 90 65) : (re_v183 z0.1 b.w L).Ok (b.V z0.1) := okFn O (re_v183_U_t b L c) (by kernel_rfl) (by kernel_rfl)
noncomputable def re_v183_Lo_h (K : Params → KT) (w : World) (L : Lt) (c : Cls L 2 97 122 71) : List (Nat × Act) := [(40, S), (37, .bi (cLeT c 65 rfl)), (33, S), (30, .bi (cGeF c 90 rfl)), (23, S), (20, .bi (cLeT c 97 rfl)), (16, S), (13, .bi (cGeT c 122 rfl)), (4, .bi (cSub c 71 rfl))]
theorem re_v183_Lo_t (b : Pk) (L : Lt) (c : Cls L 2 97 122 71) : FnT (b.V z0.1) (re_v183 z0.1 b.w L) 57 (re_v183_Lo_h z0.1 b.w L c) ⟨none, [(5269, .cnt)]⟩ := by intro h₁ R p i τ υ; kernel_rfl
theorem re_v183_Lo_ok (b : Pk) (O : (b.V z0.1).Ok) (L : Lt) (c : Cls L 2 97 122 71) : (re_v183 z0.1 b.w L).Ok (b.V z0.1) := okFn O (re_v183_Lo_t b L c) (by kernel_rfl) (by kernel_rfl)
theorem re_v183_ok (b : Pk) (O : (b.V z0.1).Ok) (L : Lt) (hL : LtOk L 3) (hB : Bnd L) : (re_v183 z0.1 b.w L).Ok (b.V z0.1) := by
  have z := hB.v2
  rcases cls_of hL (r := 2) rfl with ⟨_, c⟩ | ⟨e, _, c⟩ | ⟨e, _, c⟩ | ⟨e, c⟩ | ⟨e, c⟩
  · exact re_v183_U_ok b O L c
  · exact re_v183_Lo_ok b O L c
  · omega
  · omega
  · omega
noncomputable def re_top_h (K : Params → KT) (w : World) (L : Lt) (hL : LtOk L 3) (hH : HdOk L 4) (vs : List Value) (h63 : vs.length ≤ 63) : List (Nat × Act) := [(12158, .repl (rSlc vs h63)), (12151, .fn (re_sum K w L vs) ⟨none, [(361, .cnt)]⟩), (12113, .bi (bMod L.h 5 4 (by decide) hH.m)), (12095, S), (12030, .bi (bDiv L.h 5 (L.h / 5) (by decide) (by decide) rfl)), (12023, .bi (bMod (L.h / 5) 16 (L.h / 5 % 16) (by decide) rfl)), (12017, .bi (bAdd 3 (L.h / 5 % 16) (L.v 0) hH.v0)), (11981, S), (11970, .ctr (re_vals K w L) ⟨none, [(369, .un 12151), (363, .tau 12151), (361, .cnt)]⟩), (11953, S), (11943, .comp .list), (11917, .bi (biGet hL 0 rfl)), (11881, .bi (biGet hL 1 rfl)), (11845, .bi (biGet hL 2 rfl)), (11717, S), (11675, S), (11636, S), (11625, .ctr (re_lm19_0 K w L) ⟨some 11970, [(414, .un 11970)]⟩), (11592, S), (11556, S), (11517, S), (11506, .ctr (re_lm39_0 K w L) ⟨some 11625, [(476, .un 11625)]⟩), (11433, S), (11425, S), (11419, S), (11412, S), (11404, S), (11398, S), (11391, S), (11383, S), (11377, S), (11370, S), (11362, S), (11356, S), (11348, S), (11340, S), (11334, S), (11327, S), (11321, Q), (11313, S), (11305, S), (11299, S), (11292, S), (11286, Q), (11285, Q), (11282, S), (11276, S), (11269, S), (11263, Q), (11260, S), (11254, S), (11247, S), (11239, S), (11233, S), (11226, S), (11218, S), (11212, S), (11205, S), (11199, Q), (11198, Q), (11195, S), (11189, S), (11182, S), (11174, S), (11168, S), (11161, S), (11153, S), (11147, S), (11140, S), (11134, Q), (11131, S), (11125, S), (11118, S), (11110, S), (11104, S), (11097, S), (11091, Q), (11088, S), (11082, S), (11075, S), (11069, Q), (11066, S), (11060, S), (11053, S), (11045, S), (11039, S), (11032, S), (11026, Q), (11025, Q), (11022, S), (11016, S), (11009, S), (11001, S), (10995, S), (10988, S), (10982, Q), (10974, S), (10966, S), (10960, S), (10953, S), (10945, S), (10939, S), (10932, S), (10926, Q), (10923, S), (10917, S), (10910, S), (10902, S), (10896, S), (10879, S), (10871, .ctr (re_row73_0 K w L) ⟨some 11506, [(1376, .un 11506)]⟩), (10861, S), (10851, .comp .list), (10825, .bi (biGet hL 0 rfl)), (10789, .bi (biGet hL 0 rfl)), (10753, .bi (biGet hL 0 rfl)), (10717, .bi (biGet hL 1 rfl)), (10681, .bi (biGet hL 0 rfl)), (10645, .bi (biGet hL 0 rfl)), (10609, .bi (biGet hL 2 rfl)), (10573, .bi (biGet hL 0 rfl)), (10537, .bi (biGet hL 1 rfl)), (10501, .bi (biGet hL 1 rfl)), (10465, .bi (biGet hL 0 rfl)), (10429, .bi (biGet hL 1 rfl)), (10393, .bi (biGet hL 2 rfl)), (10357, .bi (biGet hL 0 rfl)), (10321, .bi (biGet hL 2 rfl)), (10285, .bi (biGet hL 1 rfl)), (10249, .bi (biGet hL 0 rfl)), (10213, .bi (biGet hL 2 rfl)), (10177, .bi (biGet hL 2 rfl)), (10141, .bi (biGet hL 1 rfl)), (10105, .bi (biGet hL 1 rfl)), (10069, .bi (biGet hL 1 rfl)), (10033, .bi (biGet hL 2 rfl)), (9997, .bi (biGet hL 1 rfl)), (9961, .bi (biGet hL 2 rfl)), (9925, .bi (biGet hL 2 rfl)), (9889, .bi (biGet hL 2 rfl)), (9781, .ctr (re_grow81_0 K w L) ⟨some 10871, [(1425, .un 10871)]⟩), (9718, S), (9715, .bi (biNe hL [2, 2, 2, 0, 0, 0, 1, 0, 0, 2, 0, 1, 1, 0, 1, 2, 0, 2, 1, 0, 2, 2, 1, 1, 1, 2, 1, 2, 2] [2, 2, 2, 0, 0, 0, 1, 0, 0, 2, 0, 1, 1, 0, 1, 2, 0, 2, 1, 0, 2, 2, 1, 1, 1, 2, 1, 2, 2] rfl rfl)), (9616, S), (9613, .bi (biIter hL [0, 0, 0, 1, 0, 0, 2, 0, 1, 1, 0, 1, 2, 0, 2, 1, 0, 2, 2, 1, 1, 1, 2, 1, 2, 2, 2, 9] rfl)), (9606, .comp .ascii), (8535, S), (8513, .repl (rCode hL 2070 2071 0 rfl)), (8497, .repl (rCode hL 2070 2071 0 rfl)), (8481, .repl (rCode hL 2070 2071 0 rfl)), (8465, .repl (rCode hL 2070 2071 1 rfl)), (8449, .repl (rCode hL 2070 2071 0 rfl)), (8433, .repl (rCode hL 2070 2071 0 rfl)), (8417, .repl (rCode hL 2070 2071 2 rfl)), (8401, .repl (rCode hL 2070 2071 0 rfl)), (8385, .repl (rCode hL 2070 2071 1 rfl)), (8369, .repl (rCode hL 2070 2071 1 rfl)), (8353, .repl (rCode hL 2070 2071 0 rfl)), (8337, .repl (rCode hL 2070 2071 1 rfl)), (8321, .repl (rCode hL 2070 2071 2 rfl)), (8305, .repl (rCode hL 2070 2071 0 rfl)), (8289, .repl (rCode hL 2070 2071 2 rfl)), (8273, .repl (rCode hL 2070 2071 1 rfl)), (8257, .repl (rCode hL 2070 2071 0 rfl)), (8241, .repl (rCode hL 2070 2071 2 rfl)), (8225, .repl (rCode hL 2070 2071 2 rfl)), (8209, .repl (rCode hL 2070 2071 1 rfl)), (8193, .repl (rCode hL 2070 2071 1 rfl)), (8177, .repl (rCode hL 2070 2071 1 rfl)), (8161, .repl (rCode hL 2070 2071 2 rfl)), (8145, .repl (rCode hL 2070 2071 1 rfl)), (8129, .repl (rCode hL 2070 2071 2 rfl)), (8113, .repl (rCode hL 2070 2071 2 rfl)), (8097, .repl (rCode hL 2070 2071 2 rfl)), (7748, S), (7718, S), (7715, .bi (aPad hL 0 rfl)), (7705, .fn (re_v128 K w L) ⟨some 9781, [(4462, .un 9781)]⟩), (7691, S), (7688, .bi (aGe64 hL 0 rfl)), (7665, S), (7602, S), (7599, .bi (aPad hL 0 rfl)), (7589, .fn (re_v133 K w L) ⟨some 9781, [(4600, .un 7705), (4595, .tau 7705), (4462, .un 9781)]⟩), (7575, S), (7572, .bi (aGe64 hL 0 rfl)), (7549, S), (7540, S), (7512, .bi (aShl2 hL 0 rfl)), (7503, .bi (aShr4 hL 0 rfl)), (7497, .bi (aOr0 hL 0 0 rfl rfl)), (7478, .bi (aAnd15 hL 0 rfl)), (7428, S), (7425, .bi (aPad hL 0 rfl)), (7415, .fn (re_v135 K w L) ⟨some 9781, [(4619, .un 7589), (4614, .tau 7589), (4600, .un 7705), (4595, .tau 7705), (4462, .un 9781)]⟩), (7401, S), (7398, .bi (aGe64 hL 0 rfl)), (7375, S), (7366, S), (7357, S), (7329, .bi (aShl4 hL 0 rfl)), (7320, .bi (aShr2 hL 0 rfl)), (7314, .bi (aOr1 hL 0 0 rfl rfl)), (7295, .bi (aAnd3 hL 0 rfl)), (7245, S), (7242, .bi (aPad hL 1 rfl)), (7232, .fn (re_v137 K w L) ⟨some 9781, [(4646, .un 7415), (4641, .tau 7415), (4619, .un 7589), (4614, .tau 7589), (4600, .un 7705), (4595, .tau 7705), (4462, .un 9781)]⟩), (7218, S), (7215, .bi (aGe64 hL 1 rfl)), (7192, S), (7183, S), (7174, S), (7146, .bi (aShl6 hL 0 rfl)), (7138, .bi (aOr2 hL 0 1 rfl rfl)), (7077, S), (7074, .bi (aPad hL 0 rfl)), (7064, .fn (re_v139 K w L) ⟨some 9781, [(4676, .un 7232), (4669, .tau 7232), (4646, .un 7415), (4641, .tau 7415), (4619, .un 7589), (4614, .tau 7589), (4600, .un 7705), (4595, .tau 7705), (4462, .un 9781)]⟩), (7050, S), (7047, .bi (aGe64 hL 0 rfl)), (7024, S), (6961, S), (6958, .bi (aPad hL 0 rfl)), (6948, .fn (re_v141 K w L) ⟨some 9781, [(4701, .un 7064), (4696, .tau 7064), (4676, .un 7232), (4669, .tau 7232), (4646, .un 7415), (4641, .tau 7415), (4619, .un 7589), (4614, .tau 7589), (4600, .un 7705), (4595, .tau 7705), (4462, .un 9781)]⟩), (6934, S), (6931, .bi (aGe64 hL 0 rfl)), (6908, S), (6899, S), (6871, .bi (aShl2 hL 0 rfl)), (6862, .bi (aShr4 hL 0 rfl)), (6856, .bi (aOr0 hL 0 0 rfl rfl)), (6837, .bi (aAnd15 hL 0 rfl)), (6787, S), (6784, .bi (aPad hL 2 rfl)), (6774, .fn (re_v143 K w L) ⟨some 9781, [(4720, .un 6948), (4715, .tau 6948), (4701, .un 7064), (4696, .tau 7064), (4676, .un 7232), (4669, .tau 7232), (4646, .un 7415), (4641, .tau 7415), (4619, .un 7589), (4614, .tau 7589), (4600, .un 7705), (4595, .tau 7705), (4462, .un 9781)]⟩), (6760, S), (6757, .bi (aGe64 hL 2 rfl)), (6734, S), (6725, S), (6716, S), (6688, .bi (aShl4 hL 0 rfl)), (6679, .bi (aShr2 hL 2 rfl)), (6673, .bi (aOr1 hL 0 2 rfl rfl)), (6654, .bi (aAnd3 hL 2 rfl)), (6604, S), (6601, .bi (aPad hL 0 rfl)), (6591, .fn (re_v145 K w L) ⟨some 9781, [(4749, .un 6774), (4742, .tau 6774), (4720, .un 6948), (4715, .tau 6948), (4701, .un 7064), (4696, .tau 7064), (4676, .un 7232), (4669, .tau 7232), (4646, .un 7415), (4641, .tau 7415), (4619, .un 7589), (4614, .tau 7589), (4600, .un 7705), (4595, .tau 7705), (4462, .un 9781)]⟩), (6577, S), (6574, .bi (aGe64 hL 0 rfl)), (6551, S), (6542, S), (6533, S), (6505, .bi (aShl6 hL 2 rfl)), (6497, .bi (aOr2 hL 2 0 rfl rfl)), (6436, S), (6433, .bi (aPad hL 1 rfl)), (6423, .fn (re_v147 K w L) ⟨some 9781, [(4777, .un 6591), (4772, .tau 6591), (4749, .un 6774), (4742, .tau 6774), (4720, .un 6948), (4715, .tau 6948), (4701, .un 7064), (4696, .tau 7064), (4676, .un 7232), (4669, .tau 7232), (4646, .un 7415), (4641, .tau 7415), (4619, .un 7589), (4614, .tau 7589), (4600, .un 7705), (4595, .tau 7705), (4462, .un 9781)]⟩), (6409, S), (6406, .bi (aGe64 hL 1 rfl)), (6383, S), (6320, S), (6317, .bi (aPad hL 1 rfl)), (6307, .fn (re_v149 K w L) ⟨some 9781, [(4804, .un 6423), (4797, .tau 6423), (4777, .un 6591), (4772, .tau 6591), (4749, .un 6774), (4742, .tau 6774), (4720, .un 6948), (4715, .tau 6948), (4701, .un 7064), (4696, .tau 7064), (4676, .un 7232), (4669, .tau 7232), (4646, .un 7415), (4641, .tau 7415), (4619, .un 7589), (4614, .tau 7589), (4600, .un 7705), (4595, .tau 7705), (4462, .un 9781)]⟩), (6293, S), (6290, .bi (aGe64 hL 1 rfl)), (6267, S), (6258, S), (6230, .bi (aShl2 hL 1 rfl)), (6221, .bi (aShr4 hL 1 rfl)), (6215, .bi (aOr0 hL 1 1 rfl rfl)), (6196, .bi (aAnd15 hL 1 rfl)), (6146, S), (6143, .bi (aPad hL 0 rfl)), (6133, .fn (re_v151 K w L) ⟨some 9781, [(4825, .un 6307), (4818, .tau 6307), (4804, .un 6423), (4797, .tau 6423), (4777, .un 6591), (4772, .tau 6591), (4749, .un 6774), (4742, .tau 6774), (4720, .un 6948), (4715, .tau 6948), (4701, .un 7064), (4696, .tau 7064), (4676, .un 7232), (4669, .tau 7232), (4646, .un 7415), (4641, .tau 7415), (4619, .un 7589), (4614, .tau 7589), (4600, .un 7705), (4595, .tau 7705), (4462, .un 9781)]⟩), (6119, S), (6116, .bi (aGe64 hL 0 rfl)), (6093, S), (6084, S), (6075, S), (6047, .bi (aShl4 hL 1 rfl)), (6038, .bi (aShr2 hL 0 rfl)), (6032, .bi (aOr1 hL 1 0 rfl rfl)), (6013, .bi (aAnd3 hL 0 rfl)), (5963, S), (5960, .bi (aPad hL 1 rfl)), (5950, .fn (re_v153 K w L) ⟨some 9781, [(4852, .un 6133), (4847, .tau 6133), (4825, .un 6307), (4818, .tau 6307), (4804, .un 6423), (4797, .tau 6423), (4777, .un 6591), (4772, .tau 6591), (4749, .un 6774), (4742, .tau 6774), (4720, .un 6948), (4715, .tau 6948), (4701, .un 7064), (4696, .tau 7064), (4676, .un 7232), (4669, .tau 7232), (4646, .un 7415), (4641, .tau 7415), (4619, .un 7589), (4614, .tau 7589), (4600, .un 7705), (4595, .tau 7705), (4462, .un 9781)]⟩), (5936, S), (5933, .bi (aGe64 hL 1 rfl)), (5910, S), (5901, S), (5892, S), (5864, .bi (aShl6 hL 0 rfl)), (5856, .bi (aOr2 hL 0 1 rfl rfl)), (5795, S), (5792, .bi (aPad hL 2 rfl)), (5782, .fn (re_v155 K w L) ⟨some 9781, [(4882, .un 5950), (4875, .tau 5950), (4852, .un 6133), (4847, .tau 6133), (4825, .un 6307), (4818, .tau 6307), (4804, .un 6423), (4797, .tau 6423), (4777, .un 6591), (4772, .tau 6591), (4749, .un 6774), (4742, .tau 6774), (4720, .un 6948), (4715, .tau 6948), (4701, .un 7064), (4696, .tau 7064), (4676, .un 7232), (4669, .tau 7232), (4646, .un 7415), (4641, .tau 7415), (4619, .un 7589), (4614, .tau 7589), (4600, .un 7705), (4595, .tau 7705), (4462, .un 9781)]⟩), (5768, S), (5765, .bi (aGe64 hL 2 rfl)), (5742, S), (5679, S), (5676, .bi (aPad hL 0 rfl)), (5666, .fn (re_v157 K w L) ⟨some 9781, [(4909, .un 5782), (4902, .tau 5782), (4882, .un 5950), (4875, .tau 5950), (4852, .un 6133), (4847, .tau 6133), (4825, .un 6307), (4818, .tau 6307), (4804, .un 6423), (4797, .tau 6423), (4777, .un 6591), (4772, .tau 6591), (4749, .un 6774), (4742, .tau 6774), (4720, .un 6948), (4715, .tau 6948), (4701, .un 7064), (4696, .tau 7064), (4676, .un 7232), (4669, .tau 7232), (4646, .un 7415), (4641, .tau 7415), (4619, .un 7589), (4614, .tau 7589), (4600, .un 7705), (4595, .tau 7705), (4462, .un 9781)]⟩), (5652, S), (5649, .bi (aGe64 hL 0 rfl)), (5626, S), (5617, S), (5589, .bi (aShl2 hL 2 rfl)), (5580, .bi (aShr4 hL 0 rfl)), (5574, .bi (aOr0 hL 2 0 rfl rfl)), (5555, .bi (aAnd15 hL 0 rfl)), (5505, S), (5502, .bi (aPad hL 2 rfl)), (5492, .fn (re_v159 K w L) ⟨some 9781, [(4928, .un 5666), (4923, .tau 5666), (4909, .un 5782), (4902, .tau 5782), (4882, .un 5950), (4875, .tau 5950), (4852, .un 6133), (4847, .tau 6133), (4825, .un 6307), (4818, .tau 6307), (4804, .un 6423), (4797, .tau 6423), (4777, .un 6591), (4772, .tau 6591), (4749, .un 6774), (4742, .tau 6774), (4720, .un 6948), (4715, .tau 6948), (4701, .un 7064), (4696, .tau 7064), (4676, .un 7232), (4669, .tau 7232), (4646, .un 7415), (4641, .tau 7415), (4619, .un 7589), (4614, .tau 7589), (4600, .un 7705), (4595, .tau 7705), (4462, .un 9781)]⟩), (5478, S), (5475, .bi (aGe64 hL 2 rfl)), (5452, S), (5443, S), (5434, S), (5406, .bi (aShl4 hL 0 rfl)), (5397, .bi (aShr2 hL 2 rfl)), (5391, .bi (aOr1 hL 0 2 rfl rfl)), (5372, .bi (aAnd3 hL 2 rfl)), (5322, S), (5319, .bi (aPad hL 1 rfl)), (5309, .fn (re_v161 K w L) ⟨some 9781, [(4957, .un 5492), (4950, .tau 5492), (4928, .un 5666), (4923, .tau 5666), (4909, .un 5782), (4902, .tau 5782), (4882, .un 5950), (4875, .tau 5950), (4852, .un 6133), (4847, .tau 6133), (4825, .un 6307), (4818, .tau 6307), (4804, .un 6423), (4797, .tau 6423), (4777, .un 6591), (4772, .tau 6591), (4749, .un 6774), (4742, .tau 6774), (4720, .un 6948), (4715, .tau 6948), (4701, .un 7064), (4696, .tau 7064), (4676, .un 7232), (4669, .tau 7232), (4646, .un 7415), (4641, .tau 7415), (4619, .un 7589), (4614, .tau 7589), (4600, .un 7705), (4595, .tau 7705), (4462, .un 9781)]⟩), (5295, S), (5292, .bi (aGe64 hL 1 rfl)), (5269, S), (5260, S), (5251, S), (5223, .bi (aShl6 hL 2 rfl)), (5215, .bi (aOr2 hL 2 1 rfl rfl)), (5154, S), (5151, .bi (aPad hL 0 rfl)), (5141, .fn (re_v163 K w L) ⟨some 9781, [(4987, .un 5309), (4980, .tau 5309), (4957, .un 5492), (4950, .tau 5492), (4928, .un 5666), (4923, .tau 5666), (4909, .un 5782), (4902, .tau 5782), (4882, .un 5950), (4875, .tau 5950), (4852, .un 6133), (4847, .tau 6133), (4825, .un 6307), (4818, .tau 6307), (4804, .un 6423), (4797, .tau 6423), (4777, .un 6591), (4772, .tau 6591), (4749, .un 6774), (4742, .tau 6774), (4720, .un 6948), (4715, .tau 6948), (4701, .un 7064), (4696, .tau 7064), (4676, .un 7232), (4669, .tau 7232), (4646, .un 7415), (4641, .tau 7415), (4619, .un 7589), (4614, .tau 7589), (4600, .un 7705), (4595, .tau 7705), (4462, .un 9781)]⟩), (5127, S), (5124, .bi (aGe64 hL 0 rfl)), (5101, S), (5038, S), (5035, .bi (aPad hL 2 rfl)), (5025, .fn (re_v165 K w L) ⟨some 9781, [(5012, .un 5141), (5007, .tau 5141), (4987, .un 5309), (4980, .tau 5309), (4957, .un 5492), (4950, .tau 5492), (4928, .un 5666), (4923, .tau 5666), (4909, .un 5782), (4902, .tau 5782), (4882, .un 5950), (4875, .tau 5950), (4852, .un 6133), (4847, .tau 6133), (4825, .un 6307), (4818, .tau 6307), (4804, .un 6423), (4797, .tau 6423), (4777, .un 6591), (4772, .tau 6591), (4749, .un 6774), (4742, .tau 6774), (4720, .un 6948), (4715, .tau 6948), (4701, .un 7064), (4696, .tau 7064), (4676, .un 7232), (4669, .tau 7232), (4646, .un 7415), (4641, .tau 7415), (4619, .un 7589), (4614, .tau 7589), (4600, .un 7705), (4595, .tau 7705), (4462, .un 9781)]⟩), (5011, S), (5008, .bi (aGe64 hL 2 rfl)), (4985, S), (4976, S), (4948, .bi (aShl2 hL 0 rfl)), (4939, .bi (aShr4 hL 2 rfl)), (4933, .bi (aOr0 hL 0 2 rfl rfl)), (4914, .bi (aAnd15 hL 2 rfl)), (4864, S), (4861, .bi (aPad hL 2 rfl)), (4851, .fn (re_v167 K w L) ⟨some 9781, [(5033, .un 5025), (5026, .tau 5025), (5012, .un 5141), (5007, .tau 5141), (4987, .un 5309), (4980, .tau 5309), (4957, .un 5492), (4950, .tau 5492), (4928, .un 5666), (4923, .tau 5666), (4909, .un 5782), (4902, .tau 5782), (4882, .un 5950), (4875, .tau 5950), (4852, .un 6133), (4847, .tau 6133), (4825, .un 6307), (4818, .tau 6307), (4804, .un 6423), (4797, .tau 6423), (4777, .un 6591), (4772, .tau 6591), (4749, .un 6774), (4742, .tau 6774), (4720, .un 6948), (4715, .tau 6948), (4701, .un 7064), (4696, .tau 7064), (4676, .un 7232), (4669, .tau 7232), (4646, .un 7415), (4641, .tau 7415), (4619, .un 7589), (4614, .tau 7589), (4600, .un 7705), (4595, .tau 7705), (4462, .un 9781)]⟩), (4837, S), (4834, .bi (aGe64 hL 2 rfl)), (4811, S), (4802, S), (4793, S), (4765, .bi (aShl4 hL 2 rfl)), (4756, .bi (aShr2 hL 2 rfl)), (4750, .bi (aOr1 hL 2 2 rfl rfl)), (4731, .bi (aAnd3 hL 2 rfl)), (4681, S), (4678, .bi (aPad hL 1 rfl)), (4668, .fn (re_v169 K w L) ⟨some 9781, [(5062, .un 4851), (5055, .tau 4851), (5033, .un 5025), (5026, .tau 5025), (5012, .un 5141), (5007, .tau 5141), (4987, .un 5309), (4980, .tau 5309), (4957, .un 5492), (4950, .tau 5492), (4928, .un 5666), (4923, .tau 5666), (4909, .un 5782), (4902, .tau 5782), (4882, .un 5950), (4875, .tau 5950), (4852, .un 6133), (4847, .tau 6133), (4825, .un 6307), (4818, .tau 6307), (4804, .un 6423), (4797, .tau 6423), (4777, .un 6591), (4772, .tau 6591), (4749, .un 6774), (4742, .tau 6774), (4720, .un 6948), (4715, .tau 6948), (4701, .un 7064), (4696, .tau 7064), (4676, .un 7232), (4669, .tau 7232), (4646, .un 7415), (4641, .tau 7415), (4619, .un 7589), (4614, .tau 7589), (4600, .un 7705), (4595, .tau 7705), (4462, .un 9781)]⟩), (4654, S), (4651, .bi (aGe64 hL 1 rfl)), (4628, S), (4619, S), (4610, S), (4582, .bi (aShl6 hL 2 rfl)), (4574, .bi (aOr2 hL 2 1 rfl rfl)), (4513, S), (4510, .bi (aPad hL 1 rfl)), (4500, .fn (re_v171 K w L) ⟨some 9781, [(5092, .un 4668), (5085, .tau 4668), (5062, .un 4851), (5055, .tau 4851), (5033, .un 5025), (5026, .tau 5025), (5012, .un 5141), (5007, .tau 5141), (4987, .un 5309), (4980, .tau 5309), (4957, .un 5492), (4950, .tau 5492), (4928, .un 5666), (4923, .tau 5666), (4909, .un 5782), (4902, .tau 5782), (4882, .un 5950), (4875, .tau 5950), (4852, .un 6133), (4847, .tau 6133), (4825, .un 6307), (4818, .tau 6307), (4804, .un 6423), (4797, .tau 6423), (4777, .un 6591), (4772, .tau 6591), (4749, .un 6774), (4742, .tau 6774), (4720, .un 6948), (4715, .tau 6948), (4701, .un 7064), (4696, .tau 7064), (4676, .un 7232), (4669, .tau 7232), (4646, .un 7415), (4641, .tau 7415), (4619, .un 7589), (4614, .tau 7589), (4600, .un 7705), (4595, .tau 7705), (4462, .un 9781)]⟩), (4486, S), (4483, .bi (aGe64 hL 1 rfl)), (4460, S), (4397, S), (4394, .bi (aPad hL 1 rfl)), (4384, .fn (re_v173 K w L) ⟨some 9781, [(5119, .un 4500), (5112, .tau 4500), (5092, .un 4668), (5085, .tau 4668), (5062, .un 4851), (5055, .tau 4851), (5033, .un 5025), (5026, .tau 5025), (5012, .un 5141), (5007, .tau 5141), (4987, .un 5309), (4980, .tau 5309), (4957, .un 5492), (4950, .tau 5492), (4928, .un 5666), (4923, .tau 5666), (4909, .un 5782), (4902, .tau 5782), (4882, .un 5950), (4875, .tau 5950), (4852, .un 6133), (4847, .tau 6133), (4825, .un 6307), (4818, .tau 6307), (4804, .un 6423), (4797, .tau 6423), (4777, .un 6591), (4772, .tau 6591), (4749, .un 6774), (4742, .tau 6774), (4720, .un 6948), (4715, .tau 6948), (4701, .un 7064), (4696, .tau 7064), (4676, .un 7232), (4669, .tau 7232), (4646, .un 7415), (4641, .tau 7415), (4619, .un 7589), (4614, .tau 7589), (4600, .un 7705), (4595, .tau 7705), (4462, .un 9781)]⟩), (4370, S), (4367, .bi (aGe64 hL 1 rfl)), (4344, S), (4335, S), (4307, .bi (aShl2 hL 1 rfl)), (4298, .bi (aShr4 hL 1 rfl)), (4292, .bi (aOr0 hL 1 1 rfl rfl)), (4273, .bi (aAnd15 hL 1 rfl)), (4223, S), (4220, .bi (aPad hL 2 rfl)), (4210, .fn (re_v175 K w L) ⟨some 9781, [(5140, .un 4384), (5133, .tau 4384), (5119, .un 4500), (5112, .tau 4500), (5092, .un 4668), (5085, .tau 4668), (5062, .un 4851), (5055, .tau 4851), (5033, .un 5025), (5026, .tau 5025), (5012, .un 5141), (5007, .tau 5141), (4987, .un 5309), (4980, .tau 5309), (4957, .un 5492), (4950, .tau 5492), (4928, .un 5666), (4923, .tau 5666), (4909, .un 5782), (4902, .tau 5782), (4882, .un 5950), (4875, .tau 5950), (4852, .un 6133), (4847, .tau 6133), (4825, .un 6307), (4818, .tau 6307), (4804, .un 6423), (4797, .tau 6423), (4777, .un 6591), (4772, .tau 6591), (4749, .un 6774), (4742, .tau 6774), (4720, .un 6948), (4715, .tau 6948), (4701, .un 7064), (4696, .tau 7064), (4676, .un 7232), (4669, .tau 7232), (4646, .un 7415), (4641, .tau 7415), (4619, .un 7589), (4614, .tau 7589), (4600, .un 7705), (4595, .tau 7705), (4462, .un 9781)]⟩), (4196, S), (4193, .bi (aGe64 hL 2 rfl)), (4170, S), (4161, S), (4152, S), (4124, .bi (aShl4 hL 1 rfl)), (4115, .bi (aShr2 hL 2 rfl)), (4109, .bi (aOr1 hL 1 2 rfl rfl)), (4090, .bi (aAnd3 hL 2 rfl)), (4040, S), (4037, .bi (aPad hL 1 rfl)), (4027, .fn (re_v177 K w L) ⟨some 9781, [(5169, .un 4210), (5162, .tau 4210), (5140, .un 4384), (5133, .tau 4384), (5119, .un 4500), (5112, .tau 4500), (5092, .un 4668), (5085, .tau 4668), (5062, .un 4851), (5055, .tau 4851), (5033, .un 5025), (5026, .tau 5025), (5012, .un 5141), (5007, .tau 5141), (4987, .un 5309), (4980, .tau 5309), (4957, .un 5492), (4950, .tau 5492), (4928, .un 5666), (4923, .tau 5666), (4909, .un 5782), (4902, .tau 5782), (4882, .un 5950), (4875, .tau 5950), (4852, .un 6133), (4847, .tau 6133), (4825, .un 6307), (4818, .tau 6307), (4804, .un 6423), (4797, .tau 6423), (4777, .un 6591), (4772, .tau 6591), (4749, .un 6774), (4742, .tau 6774), (4720, .un 6948), (4715, .tau 6948), (4701, .un 7064), (4696, .tau 7064), (4676, .un 7232), (4669, .tau 7232), (4646, .un 7415), (4641, .tau 7415), (4619, .un 7589), (4614, .tau 7589), (4600, .un 7705), (4595, .tau 7705), (4462, .un 9781)]⟩), (4013, S), (4010, .bi (aGe64 hL 1 rfl)), (3987, S), (3978, S), (3969, S), (3941, .bi (aShl6 hL 2 rfl)), (3933, .bi (aOr2 hL 2 1 rfl rfl)), (3872, S), (3869, .bi (aPad hL 2 rfl)), (3859, .fn (re_v179 K w L) ⟨some 9781, [(5199, .un 4027), (5192, .tau 4027), (5169, .un 4210), (5162, .tau 4210), (5140, .un 4384), (5133, .tau 4384), (5119, .un 4500), (5112, .tau 4500), (5092, .un 4668), (5085, .tau 4668), (5062, .un 4851), (5055, .tau 4851), (5033, .un 5025), (5026, .tau 5025), (5012, .un 5141), (5007, .tau 5141), (4987, .un 5309), (4980, .tau 5309), (4957, .un 5492), (4950, .tau 5492), (4928, .un 5666), (4923, .tau 5666), (4909, .un 5782), (4902, .tau 5782), (4882, .un 5950), (4875, .tau 5950), (4852, .un 6133), (4847, .tau 6133), (4825, .un 6307), (4818, .tau 6307), (4804, .un 6423), (4797, .tau 6423), (4777, .un 6591), (4772, .tau 6591), (4749, .un 6774), (4742, .tau 6774), (4720, .un 6948), (4715, .tau 6948), (4701, .un 7064), (4696, .tau 7064), (4676, .un 7232), (4669, .tau 7232), (4646, .un 7415), (4641, .tau 7415), (4619, .un 7589), (4614, .tau 7589), (4600, .un 7705), (4595, .tau 7705), (4462, .un 9781)]⟩), (3845, S), (3842, .bi (aGe64 hL 2 rfl)), (3819, S), (3756, S), (3753, .bi (aPad hL 2 rfl)), (3743, .fn (re_v181 K w L) ⟨some 9781, [(5226, .un 3859), (5219, .tau 3859), (5199, .un 4027), (5192, .tau 4027), (5169, .un 4210), (5162, .tau 4210), (5140, .un 4384), (5133, .tau 4384), (5119, .un 4500), (5112, .tau 4500), (5092, .un 4668), (5085, .tau 4668), (5062, .un 4851), (5055, .tau 4851), (5033, .un 5025), (5026, .tau 5025), (5012, .un 5141), (5007, .tau 5141), (4987, .un 5309), (4980, .tau 5309), (4957, .un 5492), (4950, .tau 5492), (4928, .un 5666), (4923, .tau 5666), (4909, .un 5782), (4902, .tau 5782), (4882, .un 5950), (4875, .tau 5950), (4852, .un 6133), (4847, .tau 6133), (4825, .un 6307), (4818, .tau 6307), (4804, .un 6423), (4797, .tau 6423), (4777, .un 6591), (4772, .tau 6591), (4749, .un 6774), (4742, .tau 6774), (4720, .un 6948), (4715, .tau 6948), (4701, .un 7064), (4696, .tau 7064), (4676, .un 7232), (4669, .tau 7232), (4646, .un 7415), (4641, .tau 7415), (4619, .un 7589), (4614, .tau 7589), (4600, .un 7705), (4595, .tau 7705), (4462, .un 9781)]⟩), (3729, S), (3726, .bi (aGe64 hL 2 rfl)), (3703, S), (3694, S), (3666, .bi (aShl2 hL 2 rfl)), (3657, .bi (aShr4 hL 2 rfl)), (3651, .bi (aOr0 hL 2 2 rfl rfl)), (3632, .bi (aAnd15 hL 2 rfl)), (3582, S), (3579, .bi (aPad hL 2 rfl)), (3569, .fn (re_v183 K w L) ⟨some 9781, [(5247, .un 3743), (5240, .tau 3743), (5226, .un 3859), (5219, .tau 3859), (5199, .un 4027), (5192, .tau 4027), (5169, .un 4210), (5162, .tau 4210), (5140, .un 4384), (5133, .tau 4384), (5119, .un 4500), (5112, .tau 4500), (5092, .un 4668), (5085, .tau 4668), (5062, .un 4851), (5055, .tau 4851), (5033, .un 5025), (5026, .tau 5025), (5012, .un 5141), (5007, .tau 5141), (4987, .un 5309), (4980, .tau 5309), (4957, .un 5492), (4950, .tau 5492), (4928, .un 5666), (4923, .tau 5666), (4909, .un 5782), (4902, .tau 5782), (4882, .un 5950), (4875, .tau 5950), (4852, .un 6133), (4847, .tau 6133), (4825, .un 6307), (4818, .tau 6307), (4804, .un 6423), (4797, .tau 6423), (4777, .un 6591), (4772, .tau 6591), (4749, .un 6774), (4742, .tau 6774), (4720, .un 6948), (4715, .tau 6948), (4701, .un 7064), (4696, .tau 7064), (4676, .un 7232), (4669, .tau 7232), (4646, .un 7415), (4641, .tau 7415), (4619, .un 7589), (4614, .tau 7589), (4600, .un 7705), (4595, .tau 7705), (4462, .un 9781)]⟩), (3555, S), (3552, .bi (aGe64 hL 2 rfl)), (3529, S), (3520, S), (3511, S), (3483, .bi (aShl4 hL 2 rfl)), (3474, .bi (aShr2 hL 2 rfl)), (3468, .bi (aOr1 hL 2 2 rfl rfl)), (3449, .bi (aAnd3 hL 2 rfl)), (3399, S), (3371, S), (3365, S), (3338, S), (3313, S), (3304, S), (3295, S), (3267, .bi (aShl6 hL 2 rfl)), (3259, .bi (aOr2 hL 2 9 rfl rfl)), (3199, S), (3190, S), (3168, S), (3146, .repl (rQ0 hL 2111 2112 0 0 rfl rfl)), (3130, .repl (rQ1 hL 2111 2112 0 0 rfl rfl)), (3114, .repl (rQ2 hL 2111 2112 0 1 rfl rfl)), (3098, .repl (rQ0 hL 2111 2112 0 0 rfl rfl)), (3082, .repl (rQ1 hL 2111 2112 0 2 rfl rfl)), (3066, .repl (rQ2 hL 2111 2112 2 0 rfl rfl)), (3050, .repl (rQ0 hL 2111 2112 1 1 rfl rfl)), (3034, .repl (rQ1 hL 2111 2112 1 0 rfl rfl)), (3018, .repl (rQ2 hL 2111 2112 0 1 rfl rfl)), (3002, .repl (rQ0 hL 2111 2112 2 0 rfl rfl)), (2986, .repl (rQ1 hL 2111 2112 0 2 rfl rfl)), (2970, .repl (rQ2 hL 2111 2112 2 1 rfl rfl)), (2954, .repl (rQ0 hL 2111 2112 0 2 rfl rfl)), (2938, .repl (rQ1 hL 2111 2112 2 2 rfl rfl)), (2922, .repl (rQ2 hL 2111 2112 2 1 rfl rfl)), (2906, .repl (rQ0 hL 2111 2112 1 1 rfl rfl)), (2890, .repl (rQ1 hL 2111 2112 1 2 rfl rfl)), (2874, .repl (rQ2 hL 2111 2112 2 1 rfl rfl)), (2858, .repl (rQ0 hL 2111 2112 2 2 rfl rfl)), (2842, .repl (rQ1 hL 2111 2112 2 2 rfl rfl)), (2826, .repl (rQ2 hL 2111 2112 2 9 rfl rfl)), (2678, S), (2604, S), (2564, .bi (aAdd1 L 0)), (2528, .bi (aMul1 L 0)), (2520, .bi (aAdd2 L 0 0)), (2484, .bi (aMul2 L 0 0)), (2476, .bi (aAdd3 L 0 0 0)), (2440, .bi (aMul3 L 0 0 0)), (2432, .bi (aAdd4 L 0 0 0 1)), (2387, .bi (aDiv0 hL 0 0 0 1 rfl rfl rfl rfl)), (2378, .bi (aDiv1 L 0 0 0 1)), (2371, .bi (aMod1 hL 0 0 0 1 rfl rfl rfl rfl)), (2362, .bi (aMod2 hL 0 0 0 1 rfl rfl rfl rfl)), (2282, S), (2242, .bi (aAdd1 L 0)), (2206, .bi (aMul1 L 0)), (2198, .bi (aAdd2 L 0 0)), (2162, .bi (aMul2 L 0 0)), (2154, .bi (aAdd3 L 0 0 2)), (2118, .bi (aMul3 L 0 0 2)), (2110, .bi (aAdd4 L 0 0 2 0)), (2065, .bi (aDiv0 hL 0 0 2 0 rfl rfl rfl rfl)), (2056, .bi (aDiv1 L 0 0 2 0)), (2049, .bi (aMod1 hL 0 0 2 0 rfl rfl rfl rfl)), (2040, .bi (aMod2 hL 0 0 2 0 rfl rfl rfl rfl)), (1960, S), (1920, .bi (aAdd1 L 1)), (1884, .bi (aMul1 L 1)), (1876, .bi (aAdd2 L 1 1)), (1840, .bi (aMul2 L 1 1)), (1832, .bi (aAdd3 L 1 1 0)), (1796, .bi (aMul3 L 1 1 0)), (1788, .bi (aAdd4 L 1 1 0 1)), (1743, .bi (aDiv0 hL 1 1 0 1 rfl rfl rfl rfl)), (1734, .bi (aDiv1 L 1 1 0 1)), (1727, .bi (aMod1 hL 1 1 0 1 rfl rfl rfl rfl)), (1718, .bi (aMod2 hL 1 1 0 1 rfl rfl rfl rfl)), (1638, S), (1598, .bi (aAdd1 L 2)), (1562, .bi (aMul1 L 2)), (1554, .bi (aAdd2 L 2 0)), (1518, .bi (aMul2 L 2 0)), (1510, .bi (aAdd3 L 2 0 2)), (1474, .bi (aMul3 L 2 0 2)), (1466, .bi (aAdd4 L 2 0 2 1)), (1421, .bi (aDiv0 hL 2 0 2 1 rfl rfl rfl rfl)), (1412, .bi (aDiv1 L 2 0 2 1)), (1405, .bi (aMod1 hL 2 0 2 1 rfl rfl rfl rfl)), (1396, .bi (aMod2 hL 2 0 2 1 rfl rfl rfl rfl)), (1316, S), (1276, .bi (aAdd1 L 0)), (1240, .bi (aMul1 L 0)), (1232, .bi (aAdd2 L 0 2)), (1196, .bi (aMul2 L 0 2)), (1188, .bi (aAdd3 L 0 2 2)), (1152, .bi (aMul3 L 0 2 2)), (1144, .bi (aAdd4 L 0 2 2 1)), (1099, .bi (aDiv0 hL 0 2 2 1 rfl rfl rfl rfl)), (1090, .bi (aDiv1 L 0 2 2 1)), (1083, .bi (aMod1 hL 0 2 2 1 rfl rfl rfl rfl)), (1074, .bi (aMod2 hL 0 2 2 1 rfl rfl rfl rfl)), (994, S), (954, .bi (aAdd1 L 1)), (918, .bi (aMul1 L 1)), (910, .bi (aAdd2 L 1 1)), (874, .bi (aMul2 L 1 1)), (866, .bi (aAdd3 L 1 1 2)), (830, .bi (aMul3 L 1 1 2)), (822, .bi (aAdd4 L 1 1 2 1)), (777, .bi (aDiv0 hL 1 1 2 1 rfl rfl rfl rfl)), (768, .bi (aDiv1 L 1 1 2 1)), (761, .bi (aMod1 hL 1 1 2 1 rfl rfl rfl rfl)), (752, .bi (aMod2 hL 1 1 2 1 rfl rfl rfl rfl)), (672, S), (632, .bi (aAdd1 L 2)), (596, .bi (aMul1 L 2)), (588, .bi (aAdd2 L 2 2)), (552, .bi (aMul2 L 2 2)), (544, .bi (aAdd3 L 2 2 2)), (508, .bi (aMul3 L 2 2 2)), (500, .bi (aAdd4 L 2 2 2 9)), (455, .bi (aDiv0 hL 2 2 2 9 rfl rfl rfl rfl)), (446, .bi (aDiv1 L 2 2 2 9)), (439, .bi (aMod1 hL 2 2 2 9 rfl rfl rfl rfl)), (430, .bi (aMod2 hL 2 2 2 9 rfl rfl rfl rfl)), (379, S), (357, .repl (rQ0 hL 2166 2167 0 0 rfl rfl)), (341, .repl (rQ1 hL 2166 2167 0 0 rfl rfl)), (325, .repl (rQ2 hL 2166 2167 0 1 rfl rfl)), (309, .repl (rQ0 hL 2166 2167 0 0 rfl rfl)), (293, .repl (rQ1 hL 2166 2167 0 2 rfl rfl)), (277, .repl (rQ2 hL 2166 2167 2 0 rfl rfl)), (261, .repl (rQ0 hL 2166 2167 1 1 rfl rfl)), (245, .repl (rQ1 hL 2166 2167 1 0 rfl rfl)), (229, .repl (rQ2 hL 2166 2167 0 1 rfl rfl)), (213, .repl (rQ0 hL 2166 2167 2 0 rfl rfl)), (197, .repl (rQ1 hL 2166 2167 0 2 rfl rfl)), (181, .repl (rQ2 hL 2166 2167 2 1 rfl rfl)), (165, .repl (rQ0 hL 2166 2167 0 2 rfl rfl)), (149, .repl (rQ1 hL 2166 2167 2 2 rfl rfl)), (133, .repl (rQ2 hL 2166 2167 2 1 rfl rfl)), (117, .repl (rQ0 hL 2166 2167 1 1 rfl rfl)), (101, .repl (rQ1 hL 2166 2167 1 2 rfl rfl)), (85, .repl (rQ2 hL 2166 2167 2 1 rfl rfl)), (69, .repl (rQ0 hL 2166 2167 2 2 rfl rfl)), (53, .repl (rQ1 hL 2166 2167 2 2 rfl rfl)), (37, .repl (rQ2 hL 2166 2167 2 9 rfl rfl)), (6, S), (3, .bi (bBytes [q0 L 0 0, q1 L 0 0, q2 L 0 1, q0 L 0 0, q1 L 0 2, q2 L 2 0, q0 L 1 1, q1 L 1 0, q2 L 0 1, q0 L 2 0, q1 L 0 2, q2 L 2 1, q0 L 0 2, q1 L 2 2, q2 L 2 1, q0 L 1 1, q1 L 1 2, q2 L 2 1, q0 L 2 2, q1 L 2 2, q2 L 2 9]))]
theorem re_top_t (b : Pk) (L : Lt) (hL : LtOk L 3) (hH : HdOk L 4) (h63 : b.vs.length ≤ 63) : TopT (b.V z0.1) G0 default 12193 137 (re_top_h z0.1 b.w L hL hH b.vs h63) := by intro i τ υ; kernel_rfl
theorem re_top (b : Pk) (O : (b.V z0.1).Ok) (L : Lt) (hL : LtOk L 3) (hH : HdOk L 4) (h63 : b.vs.length ≤ 63) (hB : Bnd L) (hsum : (re_sum z0.1 b.w L b.vs).Ok (b.V z0.1)) (hvals : (re_vals z0.1 b.w L).Ok (b.V z0.1)) (i : Nat) (hR : ∀ T m' i' ch h, RepK (b.V z0.1) h T m' ch → b.R₀ (.ok (.ret (.bool true))) ⟨h, ⟨[]⟩, b.d, b.t₀ + i', b.os⟩) : GoX (b.V z0.1) G0 default .base (dF G0.code) .nil 137 i [] :=
  top_go O (re_top_t b L hL hH h63) (met (.fn hsum ⟨none, [(361, .cnt)]⟩ (.ctr hvals ⟨none, [(369, .un 12151), (363, .tau 12151), (361, .cnt)]⟩ (.ctr (re_lm19_0_ok b O L hL hB) ⟨some 11970, [(414, .un 11970)]⟩ (.ctr (re_lm39_0_ok b O L hL hB) ⟨some 11625, [(476, .un 11625)]⟩ (.ctr (re_row73_0_ok b O L hL hB) ⟨some 11506, [(1376, .un 11506)]⟩ (.ctr (re_grow81_0_ok b O L hL hB) ⟨some 10871, [(1425, .un 10871)]⟩ (.fn (re_v128_ok b O L hL hB) ⟨some 9781, [(4462, .un 9781)]⟩ (.fn (re_v133_ok b O L hL hB) ⟨some 9781, [(4600, .un 7705), (4595, .tau 7705), (4462, .un 9781)]⟩ (.fn (re_v135_ok b O L hL hB) ⟨some 9781, [(4619, .un 7589), (4614, .tau 7589), (4600, .un 7705), (4595, .tau 7705), (4462, .un 9781)]⟩ (.fn (re_v137_ok b O L hL hB) ⟨some 9781, [(4646, .un 7415), (4641, .tau 7415), (4619, .un 7589), (4614, .tau 7589), (4600, .un 7705), (4595, .tau 7705), (4462, .un 9781)]⟩ (.fn (re_v139_ok b O L hL hB) ⟨some 9781, [(4676, .un 7232), (4669, .tau 7232), (4646, .un 7415), (4641, .tau 7415), (4619, .un 7589), (4614, .tau 7589), (4600, .un 7705), (4595, .tau 7705), (4462, .un 9781)]⟩ (.fn (re_v141_ok b O L hL hB) ⟨some 9781, [(4701, .un 7064), (4696, .tau 7064), (4676, .un 7232), (4669, .tau 7232), (4646, .un 7415), (4641, .tau 7415), (4619, .un 7589), (4614, .tau 7589), (4600, .un 7705), (4595, .tau 7705), (4462, .un 9781)]⟩ (.fn (re_v143_ok b O L hL hB) ⟨some 9781, [(4720, .un 6948), (4715, .tau 6948), (4701, .un 7064), (4696, .tau 7064), (4676, .un 7232), (4669, .tau 7232), (4646, .un 7415), (4641, .tau 7415), (4619, .un 7589), (4614, .tau 7589), (4600, .un 7705), (4595, .tau 7705), (4462, .un 9781)]⟩ (.fn (re_v145_ok b O L hL hB) ⟨some 9781, [(4749, .un 6774), (4742, .tau 6774), (4720, .un 6948), (4715, .tau 6948), (4701, .un 7064), (4696, .tau 7064), (4676, .un 7232), (4669, .tau 7232), (4646, .un 7415), (4641, .tau 7415), (4619, .un 7589), (4614, .tau 7589), (4600, .un 7705), (4595, .tau 7705), (4462, .un 9781)]⟩ (.fn (re_v147_ok b O L hL hB) ⟨some 9781, [(4777, .un 6591), (4772, .tau 6591), (4749, .un 6774), (4742, .tau 6774), (4720, .un 6948), (4715, .tau 6948), (4701, .un 7064), (4696, .tau 7064), (4676, .un 7232), (4669, .tau 7232), (4646, .un 7415), (4641, .tau 7415), (4619, .un 7589), (4614, .tau 7589), (4600, .un 7705), (4595, .tau 7705), (4462, .un 9781)]⟩ (.fn (re_v149_ok b O L hL hB) ⟨some 9781, [(4804, .un 6423), (4797, .tau 6423), (4777, .un 6591), (4772, .tau 6591), (4749, .un 6774), (4742, .tau 6774), (4720, .un 6948), (4715, .tau 6948), (4701, .un 7064), (4696, .tau 7064), (4676, .un 7232), (4669, .tau 7232), (4646, .un 7415), (4641, .tau 7415), (4619, .un 7589), (4614, .tau 7589), (4600, .un 7705), (4595, .tau 7705), (4462, .un 9781)]⟩ (.fn (re_v151_ok b O L hL hB) ⟨some 9781, [(4825, .un 6307), (4818, .tau 6307), (4804, .un 6423), (4797, .tau 6423), (4777, .un 6591), (4772, .tau 6591), (4749, .un 6774), (4742, .tau 6774), (4720, .un 6948), (4715, .tau 6948), (4701, .un 7064), (4696, .tau 7064), (4676, .un 7232), (4669, .tau 7232), (4646, .un 7415), (4641, .tau 7415), (4619, .un 7589), (4614, .tau 7589), (4600, .un 7705), (4595, .tau 7705), (4462, .un 9781)]⟩ (.fn (re_v153_ok b O L hL hB) ⟨some 9781, [(4852, .un 6133), (4847, .tau 6133), (4825, .un 6307), (4818, .tau 6307), (4804, .un 6423), (4797, .tau 6423), (4777, .un 6591), (4772, .tau 6591), (4749, .un 6774), (4742, .tau 6774), (4720, .un 6948), (4715, .tau 6948), (4701, .un 7064), (4696, .tau 7064), (4676, .un 7232), (4669, .tau 7232), (4646, .un 7415), (4641, .tau 7415), (4619, .un 7589), (4614, .tau 7589), (4600, .un 7705), (4595, .tau 7705), (4462, .un 9781)]⟩ (.fn (re_v155_ok b O L hL hB) ⟨some 9781, [(4882, .un 5950), (4875, .tau 5950), (4852, .un 6133), (4847, .tau 6133), (4825, .un 6307), (4818, .tau 6307), (4804, .un 6423), (4797, .tau 6423), (4777, .un 6591), (4772, .tau 6591), (4749, .un 6774), (4742, .tau 6774), (4720, .un 6948), (4715, .tau 6948), (4701, .un 7064), (4696, .tau 7064), (4676, .un 7232), (4669, .tau 7232), (4646, .un 7415), (4641, .tau 7415), (4619, .un 7589), (4614, .tau 7589), (4600, .un 7705), (4595, .tau 7705), (4462, .un 9781)]⟩ (.fn (re_v157_ok b O L hL hB) ⟨some 9781, [(4909, .un 5782), (4902, .tau 5782), (4882, .un 5950), (4875, .tau 5950), (4852, .un 6133), (4847, .tau 6133), (4825, .un 6307), (4818, .tau 6307), (4804, .un 6423), (4797, .tau 6423), (4777, .un 6591), (4772, .tau 6591), (4749, .un 6774), (4742, .tau 6774), (4720, .un 6948), (4715, .tau 6948), (4701, .un 7064), (4696, .tau 7064), (4676, .un 7232), (4669, .tau 7232), (4646, .un 7415), (4641, .tau 7415), (4619, .un 7589), (4614, .tau 7589), (4600, .un 7705), (4595, .tau 7705), (4462, .un 9781)]⟩ (.fn (re_v159_ok b O L hL hB) ⟨some 9781, [(4928, .un 5666), (4923, .tau 5666), (4909, .un 5782), (4902, .tau 5782), (4882, .un 5950), (4875, .tau 5950), (4852, .un 6133), (4847, .tau 6133), (4825, .un 6307), (4818, .tau 6307), (4804, .un 6423), (4797, .tau 6423), (4777, .un 6591), (4772, .tau 6591), (4749, .un 6774), (4742, .tau 6774), (4720, .un 6948), (4715, .tau 6948), (4701, .un 7064), (4696, .tau 7064), (4676, .un 7232), (4669, .tau 7232), (4646, .un 7415), (4641, .tau 7415), (4619, .un 7589), (4614, .tau 7589), (4600, .un 7705), (4595, .tau 7705), (4462, .un 9781)]⟩ (.fn (re_v161_ok b O L hL hB) ⟨some 9781, [(4957, .un 5492), (4950, .tau 5492), (4928, .un 5666), (4923, .tau 5666), (4909, .un 5782), (4902, .tau 5782), (4882, .un 5950), (4875, .tau 5950), (4852, .un 6133), (4847, .tau 6133), (4825, .un 6307), (4818, .tau 6307), (4804, .un 6423), (4797, .tau 6423), (4777, .un 6591), (4772, .tau 6591), (4749, .un 6774), (4742, .tau 6774), (4720, .un 6948), (4715, .tau 6948), (4701, .un 7064), (4696, .tau 7064), (4676, .un 7232), (4669, .tau 7232), (4646, .un 7415), (4641, .tau 7415), (4619, .un 7589), (4614, .tau 7589), (4600, .un 7705), (4595, .tau 7705), (4462, .un 9781)]⟩ (.fn (re_v163_ok b O L hL hB) ⟨some 9781, [(4987, .un 5309), (4980, .tau 5309), (4957, .un 5492), (4950, .tau 5492), (4928, .un 5666), (4923, .tau 5666), (4909, .un 5782), (4902, .tau 5782), (4882, .un 5950), (4875, .tau 5950), (4852, .un 6133), (4847, .tau 6133), (4825, .un 6307), (4818, .tau 6307), (4804, .un 6423), (4797, .tau 6423), (4777, .un 6591), (4772, .tau 6591), (4749, .un 6774), (4742, .tau 6774), (4720, .un 6948), (4715, .tau 6948), (4701, .un 7064), (4696, .tau 7064), (4676, .un 7232), (4669, .tau 7232), (4646, .un 7415), (4641, .tau 7415), (4619, .un 7589), (4614, .tau 7589), (4600, .un 7705), (4595, .tau 7705), (4462, .un 9781)]⟩ (.fn (re_v165_ok b O L hL hB) ⟨some 9781, [(5012, .un 5141), (5007, .tau 5141), (4987, .un 5309), (4980, .tau 5309), (4957, .un 5492), (4950, .tau 5492), (4928, .un 5666), (4923, .tau 5666), (4909, .un 5782), (4902, .tau 5782), (4882, .un 5950), (4875, .tau 5950), (4852, .un 6133), (4847, .tau 6133), (4825, .un 6307), (4818, .tau 6307), (4804, .un 6423), (4797, .tau 6423), (4777, .un 6591), (4772, .tau 6591), (4749, .un 6774), (4742, .tau 6774), (4720, .un 6948), (4715, .tau 6948), (4701, .un 7064), (4696, .tau 7064), (4676, .un 7232), (4669, .tau 7232), (4646, .un 7415), (4641, .tau 7415), (4619, .un 7589), (4614, .tau 7589), (4600, .un 7705), (4595, .tau 7705), (4462, .un 9781)]⟩ (.fn (re_v167_ok b O L hL hB) ⟨some 9781, [(5033, .un 5025), (5026, .tau 5025), (5012, .un 5141), (5007, .tau 5141), (4987, .un 5309), (4980, .tau 5309), (4957, .un 5492), (4950, .tau 5492), (4928, .un 5666), (4923, .tau 5666), (4909, .un 5782), (4902, .tau 5782), (4882, .un 5950), (4875, .tau 5950), (4852, .un 6133), (4847, .tau 6133), (4825, .un 6307), (4818, .tau 6307), (4804, .un 6423), (4797, .tau 6423), (4777, .un 6591), (4772, .tau 6591), (4749, .un 6774), (4742, .tau 6774), (4720, .un 6948), (4715, .tau 6948), (4701, .un 7064), (4696, .tau 7064), (4676, .un 7232), (4669, .tau 7232), (4646, .un 7415), (4641, .tau 7415), (4619, .un 7589), (4614, .tau 7589), (4600, .un 7705), (4595, .tau 7705), (4462, .un 9781)]⟩ (.fn (re_v169_ok b O L hL hB) ⟨some 9781, [(5062, .un 4851), (5055, .tau 4851), (5033, .un 5025), (5026, .tau 5025), (5012, .un 5141), (5007, .tau 5141), (4987, .un 5309), (4980, .tau 5309), (4957, .un 5492), (4950, .tau 5492), (4928, .un 5666), (4923, .tau 5666), (4909, .un 5782), (4902, .tau 5782), (4882, .un 5950), (4875, .tau 5950), (4852, .un 6133), (4847, .tau 6133), (4825, .un 6307), (4818, .tau 6307), (4804, .un 6423), (4797, .tau 6423), (4777, .un 6591), (4772, .tau 6591), (4749, .un 6774), (4742, .tau 6774), (4720, .un 6948), (4715, .tau 6948), (4701, .un 7064), (4696, .tau 7064), (4676, .un 7232), (4669, .tau 7232), (4646, .un 7415), (4641, .tau 7415), (4619, .un 7589), (4614, .tau 7589), (4600, .un 7705), (4595, .tau 7705), (4462, .un 9781)]⟩ (.fn (re_v171_ok b O L hL hB) ⟨some 9781, [(5092, .un 4668), (5085, .tau 4668), (5062, .un 4851), (5055, .tau 4851), (5033, .un 5025), (5026, .tau 5025), (5012, .un 5141), (5007, .tau 5141), (4987, .un 5309), (4980, .tau 5309), (4957, .un 5492), (4950, .tau 5492), (4928, .un 5666), (4923, .tau 5666), (4909, .un 5782), (4902, .tau 5782), (4882, .un 5950), (4875, .tau 5950), (4852, .un 6133), (4847, .tau 6133), (4825, .un 6307), (4818, .tau 6307), (4804, .un 6423), (4797, .tau 6423), (4777, .un 6591), (4772, .tau 6591), (4749, .un 6774), (4742, .tau 6774), (4720, .un 6948), (4715, .tau 6948), (4701, .un 7064), (4696, .tau 7064), (4676, .un 7232), (4669, .tau 7232), (4646, .un 7415), (4641, .tau 7415), (4619, .un 7589), (4614, .tau 7589), (4600, .un 7705), (4595, .tau 7705), (4462, .un 9781)]⟩ (.fn (re_v173_ok b O L hL hB) ⟨some 9781, [(5119, .un 4500), (5112, .tau 4500), (5092, .un 4668), (5085, .tau 4668), (5062, .un 4851), (5055, .tau 4851), (5033, .un 5025), (5026, .tau 5025), (5012, .un 5141), (5007, .tau 5141), (4987, .un 5309), (4980, .tau 5309), (4957, .un 5492), (4950, .tau 5492), (4928, .un 5666), (4923, .tau 5666), (4909, .un 5782), (4902, .tau 5782), (4882, .un 5950), (4875, .tau 5950), (4852, .un 6133), (4847, .tau 6133), (4825, .un 6307), (4818, .tau 6307), (4804, .un 6423), (4797, .tau 6423), (4777, .un 6591), (4772, .tau 6591), (4749, .un 6774), (4742, .tau 6774), (4720, .un 6948), (4715, .tau 6948), (4701, .un 7064), (4696, .tau 7064), (4676, .un 7232), (4669, .tau 7232), (4646, .un 7415), (4641, .tau 7415), (4619, .un 7589), (4614, .tau 7589), (4600, .un 7705), (4595, .tau 7705), (4462, .un 9781)]⟩ (.fn (re_v175_ok b O L hL hB) ⟨some 9781, [(5140, .un 4384), (5133, .tau 4384), (5119, .un 4500), (5112, .tau 4500), (5092, .un 4668), (5085, .tau 4668), (5062, .un 4851), (5055, .tau 4851), (5033, .un 5025), (5026, .tau 5025), (5012, .un 5141), (5007, .tau 5141), (4987, .un 5309), (4980, .tau 5309), (4957, .un 5492), (4950, .tau 5492), (4928, .un 5666), (4923, .tau 5666), (4909, .un 5782), (4902, .tau 5782), (4882, .un 5950), (4875, .tau 5950), (4852, .un 6133), (4847, .tau 6133), (4825, .un 6307), (4818, .tau 6307), (4804, .un 6423), (4797, .tau 6423), (4777, .un 6591), (4772, .tau 6591), (4749, .un 6774), (4742, .tau 6774), (4720, .un 6948), (4715, .tau 6948), (4701, .un 7064), (4696, .tau 7064), (4676, .un 7232), (4669, .tau 7232), (4646, .un 7415), (4641, .tau 7415), (4619, .un 7589), (4614, .tau 7589), (4600, .un 7705), (4595, .tau 7705), (4462, .un 9781)]⟩ (.fn (re_v177_ok b O L hL hB) ⟨some 9781, [(5169, .un 4210), (5162, .tau 4210), (5140, .un 4384), (5133, .tau 4384), (5119, .un 4500), (5112, .tau 4500), (5092, .un 4668), (5085, .tau 4668), (5062, .un 4851), (5055, .tau 4851), (5033, .un 5025), (5026, .tau 5025), (5012, .un 5141), (5007, .tau 5141), (4987, .un 5309), (4980, .tau 5309), (4957, .un 5492), (4950, .tau 5492), (4928, .un 5666), (4923, .tau 5666), (4909, .un 5782), (4902, .tau 5782), (4882, .un 5950), (4875, .tau 5950), (4852, .un 6133), (4847, .tau 6133), (4825, .un 6307), (4818, .tau 6307), (4804, .un 6423), (4797, .tau 6423), (4777, .un 6591), (4772, .tau 6591), (4749, .un 6774), (4742, .tau 6774), (4720, .un 6948), (4715, .tau 6948), (4701, .un 7064), (4696, .tau 7064), (4676, .un 7232), (4669, .tau 7232), (4646, .un 7415), (4641, .tau 7415), (4619, .un 7589), (4614, .tau 7589), (4600, .un 7705), (4595, .tau 7705), (4462, .un 9781)]⟩ (.fn (re_v179_ok b O L hL hB) ⟨some 9781, [(5199, .un 4027), (5192, .tau 4027), (5169, .un 4210), (5162, .tau 4210), (5140, .un 4384), (5133, .tau 4384), (5119, .un 4500), (5112, .tau 4500), (5092, .un 4668), (5085, .tau 4668), (5062, .un 4851), (5055, .tau 4851), (5033, .un 5025), (5026, .tau 5025), (5012, .un 5141), (5007, .tau 5141), (4987, .un 5309), (4980, .tau 5309), (4957, .un 5492), (4950, .tau 5492), (4928, .un 5666), (4923, .tau 5666), (4909, .un 5782), (4902, .tau 5782), (4882, .un 5950), (4875, .tau 5950), (4852, .un 6133), (4847, .tau 6133), (4825, .un 6307), (4818, .tau 6307), (4804, .un 6423), (4797, .tau 6423), (4777, .un 6591), (4772, .tau 6591), (4749, .un 6774), (4742, .tau 6774), (4720, .un 6948), (4715, .tau 6948), (4701, .un 7064), (4696, .tau 7064), (4676, .un 7232), (4669, .tau 7232), (4646, .un 7415), (4641, .tau 7415), (4619, .un 7589), (4614, .tau 7589), (4600, .un 7705), (4595, .tau 7705), (4462, .un 9781)]⟩ (.fn (re_v181_ok b O L hL hB) ⟨some 9781, [(5226, .un 3859), (5219, .tau 3859), (5199, .un 4027), (5192, .tau 4027), (5169, .un 4210), (5162, .tau 4210), (5140, .un 4384), (5133, .tau 4384), (5119, .un 4500), (5112, .tau 4500), (5092, .un 4668), (5085, .tau 4668), (5062, .un 4851), (5055, .tau 4851), (5033, .un 5025), (5026, .tau 5025), (5012, .un 5141), (5007, .tau 5141), (4987, .un 5309), (4980, .tau 5309), (4957, .un 5492), (4950, .tau 5492), (4928, .un 5666), (4923, .tau 5666), (4909, .un 5782), (4902, .tau 5782), (4882, .un 5950), (4875, .tau 5950), (4852, .un 6133), (4847, .tau 6133), (4825, .un 6307), (4818, .tau 6307), (4804, .un 6423), (4797, .tau 6423), (4777, .un 6591), (4772, .tau 6591), (4749, .un 6774), (4742, .tau 6774), (4720, .un 6948), (4715, .tau 6948), (4701, .un 7064), (4696, .tau 7064), (4676, .un 7232), (4669, .tau 7232), (4646, .un 7415), (4641, .tau 7415), (4619, .un 7589), (4614, .tau 7589), (4600, .un 7705), (4595, .tau 7705), (4462, .un 9781)]⟩ (.fn (re_v183_ok b O L hL hB) ⟨some 9781, [(5247, .un 3743), (5240, .tau 3743), (5226, .un 3859), (5219, .tau 3859), (5199, .un 4027), (5192, .tau 4027), (5169, .un 4210), (5162, .tau 4210), (5140, .un 4384), (5133, .tau 4384), (5119, .un 4500), (5112, .tau 4500), (5092, .un 4668), (5085, .tau 4668), (5062, .un 4851), (5055, .tau 4851), (5033, .un 5025), (5026, .tau 5025), (5012, .un 5141), (5007, .tau 5141), (4987, .un 5309), (4980, .tau 5309), (4957, .un 5492), (4950, .tau 5492), (4928, .un 5666), (4923, .tau 5666), (4909, .un 5782), (4902, .tau 5782), (4882, .un 5950), (4875, .tau 5950), (4852, .un 6133), (4847, .tau 6133), (4825, .un 6307), (4818, .tau 6307), (4804, .un 6423), (4797, .tau 6423), (4777, .un 6591), (4772, .tau 6591), (4749, .un 6774), (4742, .tau 6774), (4720, .un 6948), (4715, .tau 6948), (4701, .un 7064), (4696, .tau 7064), (4676, .un 7232), (4669, .tau 7232), (4646, .un 7415), (4641, .tau 7415), (4619, .un 7589), (4614, .tau 7589), (4600, .un 7705), (4595, .tau 7705), (4462, .un 9781)]⟩ .nil))))))))))))))))))))))))))))))))) (by kernel_rfl)) i hR

end Mine
end
section
open PySem PySem.W PySem.W.X PyProof.Rows
set_option maxRecDepth 100000
namespace Mine
theorem ra_vals_ok (b : Pk) (O : (b.V z0.1).Ok) (h : Int) (ns : List Int) (hi : IntsAre b.vs ns) (h63 : b.vs.length ≤ 63) : (ra_vals z0.1 b.w (LL h ns)).Ok (b.V z0.1) := by
  obtain ⟨w, h₀, vs, R₀, d, t₀, os⟩ := b
  dsimp only at hi h63
  cases hi with
  | nil => exact ra_vals_s0_ok ⟨w, h₀, [], R₀, d, t₀, os⟩ (LL h ([])) (fun i => [].getD i 0) (fun i => [].getD i 0) [] (ll_step (ns := ([])) 0 (rfl)) O h63
  | cons n0 t0 hi =>
    cases hi with
    | nil => exact ra_vals_s1_ok ⟨w, h₀, [], R₀, d, t₀, os⟩ (LL h (n0 :: [])) (fun i => [n0].getD i 0) (fun i => [t0].getD i 0) [] (ll_step (ns := (n0 :: [])) 0 (rfl)) O h63
    | cons n1 t1 hi =>
      rename_i vs ns
      exact ra_vals_s2_ok ⟨w, h₀, [], R₀, d, t₀, os⟩ (LL h (n0 :: n1 :: ns)) (fun i => [n0, n1].getD i 0) (fun i => [t0, t1].getD i 0) vs (ll_step (ns := (n0 :: n1 :: ns)) 0 (if_pos (by simp only [List.length_cons]; omega))) O h63
theorem rb_vals_ok (b : Pk) (O : (b.V z0.1).Ok) (h : Int) (ns : List Int) (hi : IntsAre b.vs ns) (h63 : b.vs.length ≤ 63) : (rb_vals z0.1 b.w (LL h ns)).Ok (b.V z0.1) := by
  obtain ⟨w, h₀, vs, R₀, d, t₀, os⟩ := b
  dsimp only at hi h63
  cases hi with
  | nil => exact rb_vals_s0_ok ⟨w, h₀, [], R₀, d, t₀, os⟩ (LL h ([])) (fun i => [].getD i 0) (fun i => [].getD i 0) [] (ll_step (ns := ([])) 0 (rfl)) (ll_step (ns := ([])) 1 (rfl)) (ll_step (ns := ([])) 2 (rfl)) O h63
  | cons n0 t0 hi =>
    cases hi with
    | nil => exact rb_vals_s1_ok ⟨w, h₀, [], R₀, d, t₀, os⟩ (LL h (n0 :: [])) (fun i => [n0].getD i 0) (fun i => [t0].getD i 0) [] (ll_step (ns := (n0 :: [])) 0 (rfl)) (ll_step (ns := (n0 :: [])) 1 (rfl)) (ll_step (ns := (n0 :: [])) 2 (rfl)) O h63
    | cons n1 t1 hi =>
      cases hi with
      | nil => exact rb_vals_s2_ok ⟨w, h₀, [], R₀, d, t₀, os⟩ (LL h (n0 :: n1 :: [])) (fun i => [n0, n1].getD i 0) (fun i => [t0, t1].getD i 0) [] (ll_step (ns := (n0 :: n1 :: [])) 0 (if_pos (by simp only [List.length_cons]; omega))) (ll_step (ns := (n0 :: n1 :: [])) 1 (rfl)) (ll_step (ns := (n0 :: n1 :: [])) 2 (rfl)) O h63
      | cons n2 t2 hi =>
        cases hi with
        | nil => exact rb_vals_s3_ok ⟨w, h₀, [], R₀, d, t₀, os⟩ (LL h (n0 :: n1 :: n2 :: [])) (fun i => [n0, n1, n2].getD i 0) (fun i => [t0, t1, t2].getD i 0) [] (ll_step (ns := (n0 :: n1 :: n2 :: [])) 0 (if_pos (by simp only [List.length_cons]; omega))) (ll_step (ns := (n0 :: n1 :: n2 :: [])) 1 (if_pos (by simp only [List.length_cons]; omega))) (ll_step (ns := (n0 :: n1 :: n2 :: [])) 2 (rfl)) O h63
        | cons n3 t3 hi =>
          rename_i vs ns
          exact rb_vals_s4_ok ⟨w, h₀, [], R₀, d, t₀, os⟩ (LL h (n0 :: n1 :: n2 :: n3 :: ns)) (fun i => [n0, n1, n2, n3].getD i 0) (fun i => [t0, t1, t2, t3].getD i 0) vs (ll_step (ns := (n0 :: n1 :: n2 :: n3 :: ns)) 0 (if_pos (by simp only [List.length_cons]; omega))) (ll_step (ns := (n0 :: n1 :: n2 :: n3 :: ns)) 1 (if_pos (by simp only [List.length_cons]; omega))) (ll_step (ns := (n0 :: n1 :: n2 :: n3 :: ns)) 2 (if_pos (by simp only [List.length_cons]; omega))) O h63
theorem rc_vals_ok (b : Pk) (O : (b.V z0.1).Ok) (h : Int) (ns : List Int) (hi : IntsAre b.vs ns) (h63 : b.vs.length ≤ 63) : (rc_vals z0.1 b.w (LL h ns)).Ok (b.V z0.1) := by
  obtain ⟨w, h₀, vs, R₀, d, t₀, os⟩ := b
  dsimp only at hi h63
  cases hi with
  | nil => exact rc_vals_s0_ok ⟨w, h₀, [], R₀, d, t₀, os⟩ (LL h ([])) (fun i => [].getD i 0) (fun i => [].getD i 0) [] (ll_step (ns := ([])) 0 (rfl)) O h63
  | cons n0 t0 hi =>
    cases hi with
    | nil => exact rc_vals_s1_ok ⟨w, h₀, [], R₀, d, t₀, os⟩ (LL h (n0 :: [])) (fun i => [n0].getD i 0) (fun i => [t0].getD i 0) [] (ll_step (ns := (n0 :: [])) 0 (rfl)) O h63
    | cons n1 t1 hi =>
      rename_i vs ns
      exact rc_vals_s2_ok ⟨w, h₀, [], R₀, d, t₀, os⟩ (LL h (n0 :: n1 :: ns)) (fun i => [n0, n1].getD i 0) (fun i => [t0, t1].getD i 0) vs (ll_step (ns := (n0 :: n1 :: ns)) 0 (if_pos (by simp only [List.length_cons]; omega))) O h63
theorem rd_vals_ok (b : Pk) (O : (b.V z0.1).Ok) (h : Int) (ns : List Int) (hi : IntsAre b.vs ns) (h63 : b.vs.length ≤ 63) : (rd_vals z0.1 b.w (LL h ns)).Ok (b.V z0.1) := by
  obtain ⟨w, h₀, vs, R₀, d, t₀, os⟩ := b
  dsimp only at hi h63
  cases hi with
  | nil => exact rd_vals_s0_ok ⟨w, h₀, [], R₀, d, t₀, os⟩ (LL h ([])) (fun i => [].getD i 0) (fun i => [].getD i 0) [] (ll_step (ns := ([])) 0 (rfl)) (ll_step (ns := ([])) 1 (rfl)) O h63
  | cons n0 t0 hi =>
    cases hi with
    | nil => exact rd_vals_s1_ok ⟨w, h₀, [], R₀, d, t₀, os⟩ (LL h (n0 :: [])) (fun i => [n0].getD i 0) (fun i => [t0].getD i 0) [] (ll_step (ns := (n0 :: [])) 0 (rfl)) (ll_step (ns := (n0 :: [])) 1 (rfl)) O h63
    | cons n1 t1 hi =>
      cases hi with
      | nil => exact rd_vals_s2_ok ⟨w, h₀, [], R₀, d, t₀, os⟩ (LL h (n0 :: n1 :: [])) (fun i => [n0, n1].getD i 0) (fun i => [t0, t1].getD i 0) [] (ll_step (ns := (n0 :: n1 :: [])) 0 (if_pos (by simp only [List.length_cons]; omega))) (ll_step (ns := (n0 :: n1 :: [])) 1 (rfl)) O h63
      | cons n2 t2 hi =>
        rename_i vs ns
        exact rd_vals_s3_ok ⟨w, h₀, [], R₀, d, t₀, os⟩ (LL h (n0 :: n1 :: n2 :: ns)) (fun i => [n0, n1, n2].getD i 0) (fun i => [t0, t1, t2].getD i 0) vs (ll_step (ns := (n0 :: n1 :: n2 :: ns)) 0 (if_pos (by simp only [List.length_cons]; omega))) (ll_step (ns := (n0 :: n1 :: n2 :: ns)) 1 (if_pos (by simp only [List.length_cons]; omega))) O h63
theorem re_vals_ok (b : Pk) (O : (b.V z0.1).Ok) (h : Int) (ns : List Int) (hi : IntsAre b.vs ns) (h63 : b.vs.length ≤ 63) : (re_vals z0.1 b.w (LL h ns)).Ok (b.V z0.1) := by
  obtain ⟨w, h₀, vs, R₀, d, t₀, os⟩ := b
  dsimp only at hi h63
  cases hi with
  | nil => exact re_vals_s0_ok ⟨w, h₀, [], R₀, d, t₀, os⟩ (LL h ([])) (fun i => [].getD i 0) (fun i => [].getD i 0) [] (ll_step (ns := ([])) 0 (rfl)) (ll_step (ns := ([])) 1 (rfl)) O h63
  | cons n0 t0 hi =>
    cases hi with
    | nil => exact re_vals_s1_ok ⟨w, h₀, [], R₀, d, t₀, os⟩ (LL h (n0 :: [])) (fun i => [n0].getD i 0) (fun i => [t0].getD i 0) [] (ll_step (ns := (n0 :: [])) 0 (rfl)) (ll_step (ns := (n0 :: [])) 1 (rfl)) O h63
    | cons n1 t1 hi =>
      cases hi with
      | nil => exact re_vals_s2_ok ⟨w, h₀, [], R₀, d, t₀, os⟩ (LL h (n0 :: n1 :: [])) (fun i => [n0, n1].getD i 0) (fun i => [t0, t1].getD i 0) [] (ll_step (ns := (n0 :: n1 :: [])) 0 (if_pos (by simp only [List.length_cons]; omega))) (ll_step (ns := (n0 :: n1 :: [])) 1 (rfl)) O h63
      | cons n2 t2 hi =>
        rename_i vs ns
        exact re_vals_s3_ok ⟨w, h₀, [], R₀, d, t₀, os⟩ (LL h (n0 :: n1 :: n2 :: ns)) (fun i => [n0, n1, n2].getD i 0) (fun i => [t0, t1, t2].getD i 0) vs (ll_step (ns := (n0 :: n1 :: n2 :: ns)) 0 (if_pos (by simp only [List.length_cons]; omega))) (ll_step (ns := (n0 :: n1 :: n2 :: ns)) 1 (if_pos (by simp only [List.length_cons]; omega))) O h63
theorem walk_all : WalkT z0.1 := by
  intro w s₁ vs ns ZH hsz hol hi hlen h63 hg Q E hQ
  obtain ⟨g, l, k, e, ek⟩ : ∃ g l k, PySem.call (.ref 135) [.ref 136] = Sem.call (.call (.ref 135) ⟨[.ref 136], []⟩) none g l k ∧ k (.ok (.ret (.bool true))) = Sem.pure (.bool true) := ⟨_, _, _, rfl, rfl⟩
  rw [e, Sem.wp_call]
  generalize hb : (⟨w, s₁.heap, vs, fun r s' => Sem.wp (model prog0 w) Γ₀ (k r) Q E default s', s₁.drawn, s₁.toks, s₁.os⟩ : Pk) = b
  have bw : b.w = w := by rw [← hb]
  have bh : b.h₀ = s₁.heap := by rw [← hb]
  have bv : b.vs = vs := by rw [← hb]
  have OK : (b.V z0.1).Ok := v_ok (by rw [bh, bw]; exact ZH) (by rw [bh]; exact hsz) (by rw [bh, bv]; exact hol)
  have h63' : b.vs.length ≤ 63 := by rw [bv, hlen]; exact h63
  have hi' : IntsAre b.vs ns := by rw [bv]; exact hi
  have hR : ∀ T m' i' ch h, RepK (b.V z0.1) h T m' ch → b.R₀ (.ok (.ret (.bool true))) ⟨h, ⟨[]⟩, b.d, b.t₀ + i', b.os⟩ := by
    intro T m' i' ch h D
    have z := D.oldK OK
    rw [← hb] at z ⊢
    show Sem.wp _ _ (k _) _ _ _ _
    rw [ek, Sem.wp_pure]
    exact hQ h _ z
  have go : GoX (b.V z0.1) G0 default .base (dF G0.code) .nil 137 0 [] := by
    obtain ⟨hs, ehs⟩ : ∃ hs, hs = preSum (fun i => ns.getD i 0) b.vs.length := ⟨_, rfl⟩
    have hd : ∀ c, hs % 5 = c → HdOk (LL hs ns) c := fun c q => ⟨q, rfl⟩
    have : hs % 5 = 0 ∨ hs % 5 = 1 ∨ hs % 5 = 2 ∨ hs % 5 = 3 ∨ hs % 5 = 4 := by omega
    rcases this with q | q | q | q | q
    · exact ra_top b OK (LL hs ns) (ll_ok hs ns 2 (by decide)) (hd _ q) h63' (ll_bnd hs ns) (ra_sum_ok b (LL hs ns) (fun i => ns.getD i 0) h63' (ints_at hi') ehs.symm) (ra_vals_ok b OK hs ns hi' h63') 0 hR
    · exact rb_top b OK (LL hs ns) (ll_ok hs ns 4 (by decide)) (hd _ q) h63' (ll_bnd hs ns) (rb_sum_ok b (LL hs ns) (fun i => ns.getD i 0) h63' (ints_at hi') ehs.symm) (rb_vals_ok b OK hs ns hi' h63') 0 hR
    · exact rc_top b OK (LL hs ns) (ll_ok hs ns 2 (by decide)) (hd _ q) h63' (ll_bnd hs ns) (rc_sum_ok b (LL hs ns) (fun i => ns.getD i 0) h63' (ints_at hi') ehs.symm) (rc_vals_ok b OK hs ns hi' h63') 0 hR
    · exact rd_top b OK (LL hs ns) (ll_ok hs ns 3 (by decide)) (hd _ q) h63' (ll_bnd hs ns) (rd_sum_ok b (LL hs ns) (fun i => ns.getD i 0) h63' (ints_at hi') ehs.symm) (rd_vals_ok b OK hs ns hi' h63') 0 hR
    · exact re_top b OK (LL hs ns) (ll_ok hs ns 3 (by decide)) (hd _ q) h63' (ll_bnd hs ns) (re_sum_ok b (LL hs ns) (fun i => ns.getD i 0) h63' (ints_at hi') ehs.symm) (re_vals_ok b OK hs ns hi' h63') 0 hR
  obtain ⟨hp, gens, d, t, os⟩ := s₁
  dsimp only at hg
  subst hg
  have z := go b.h₀ (RepK.start OK)
  have y := wx_code (V := b.V z0.1) (Γ := G0) (R := b.R₀) z
  rw [← hb] at y
  exact y
end Mine
end
theorem PySem.Challenge.cw_op0012_01_holds : PySem.Challenge.rw_op0012_01.Holds :=
  Mine.z0.2 ⟨Mine.walk_all⟩
