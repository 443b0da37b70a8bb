import PyProof.Rows.All
import Wide.All
import OpenK.AllK
import Wide.FinOn
import PySem.Challenge.RW_re0095_01
open PySem PySem.W PyProof.Rows
set_option Elab.async false
set_option maxRecDepth 100000
set_option maxHeartbeats 8000000
set_option compiler.extract_closed false
set_option linter.all false
namespace Mine
open_top hd for PySem.Challenge.rw_re0095_01
end Mine

section
local macro_rules | `(tactic| omega) => `(tactic| first | with_reducible assumption | lia)
namespace Mine
theorem fill : PySem.Challenge.rw_re0095_01 = PySem.Challenge.rw_re0095_01 ∧ hd.heap_39 = hd.heap_39 := by
  k_fill
  exact ⟨rfl, rfl⟩
noncomputable abbrev P0 : Program := PySem.Challenge.rw_re0095_01.row.prog
noncomputable def Stop (P : Prop) : Prop := P
theorem Stop.mk {P : Prop} (h : Stop P) : P := h
theorem Stop.of {P : Prop} (h : P) : Stop P := h
noncomputable abbrev Fm := Str → Option Value
noncomputable abbrev Led := List (Addr × Obj)
noncomputable def AllK (m : Fm) : List (Str × Value) → Prop
  | [] => True
  | p :: r => m p.1 = some p.2 ∧ AllK m r
theorem AllK.mem {m : Fm} {ps : List (Str × Value)} (h : AllK m ps) : ∀ p ∈ ps, m p.1 = some p.2 := by
  induction ps with
  | nil => exact fun p hp => absurd hp List.not_mem_nil
  | cons q r ih => exact List.forall_mem_cons.mpr ⟨h.1, ih h.2⟩
theorem fr_kstm {h₀ h : Heap} {L : Addr} {m : Fm} (ps : List (Str × Value)) (F : Fr h₀ L h m) (h1 : ∀ p ∈ ps, m p.1 = some p.2) : Fr h₀ L h (kstB m ps) := by
  have e : kstB m ps = m := funext fun z => kstB_eq h1 fun _ => rfl
  rw [e]; exact F
theorem fr_kst {h₀ h : Heap} {L : Addr} {m : Fm} (ps : List (Str × Value)) (F : Fr h₀ L h m) (h1 : AllK m ps) : Fr h₀ L h (kstB m ps) := fr_kstm ps F h1.mem
theorem fr_kstx {h₀ h : Heap} {L : Addr} {m : Fm} {x : Str} {v : Value} (ps : List (Str × Value)) (F : Fr h₀ L h (fun y => if y = x then some v else m y)) (h1' : AllK m ps)
    (h2 : (ps.map (·.1)).all (fun y => y != x) = true := by rfl) : Fr h₀ L h (kstB (fun y => if y = x then some v else m y) ((x, v) :: ps)) := by
  have h1 := h1'.mem
  refine fr_kstm _ F fun p hp => ?_
  rcases List.mem_cons.mp hp with rfl | hp
  · simp
  · have := List.all_eq_true.mp h2 p.1 (List.mem_map_of_mem hp)
    have hne : p.1 ≠ x := by simpa using this
    simp only [if_neg hne]
    exact h1 p hp
/-- a state behind a piece of the code, told by a word on the frame and the ledger -/
noncomputable def MidAt (h₀ : Heap) (L : Addr) (s : Shared) (Mid : Fm → Led → Prop) (s₂ : Shared) : Prop :=
  ∃ h' tk m' news', s₂ = { s with heap := h', toks := tk } ∧ Fr h₀ L h' m' ∧ News h₀ L h' news' ∧ Mid m' news'
theorem MidAt.intro {h₀ h' : Heap} {L : Addr} {s : Shared} {Mid : Fm → Led → Prop} {tk : Nat} {m' : Fm} {news' : Led}
    (F : Fr h₀ L h' m') (N : News h₀ L h' news') (h : Mid m' news') : MidAt h₀ L s Mid { s with heap := h', toks := tk } := ⟨h', tk, m', news', rfl, F, N, h⟩
theorem news_sub {h₀ h : Heap} {L : Addr} {a b : Led} (N : News h₀ L h a) (hs : ∀ p ∈ b, p ∈ a) : News h₀ L h b := fun p hp => N p (hs p hp)
section
variable {prog : Program} {w : World} {A : Around} {E : Value → Shared → Prop} {Q : Flow → Shared → Prop} {s : Shared} {env : Env} {h₀ : Heap} {L : Addr}
theorem while_mid {test : Expr} {body : List Stmt} {pos : Pos} {m : Fm} {news : Led} (J : Nat → Fm → Led → Prop) (Mid : Fm → Led → Prop) (n₀ : Nat)
    (F : Fr h₀ L s.heap m) (N : News h₀ L s.heap news) (hJ : J n₀ m news)
    (turn : ∀ n m₁ news₁ h₁ tk₁, Fr h₀ L h₁ m₁ → News h₀ L h₁ news₁ → J n m₁ news₁ →
      wpAny (model prog w) A (isTrue test env (eval test env)) (fun b s₂ =>
        if b = true then wpAny (model prog w) A (execs body env) (WhileStep h₀ L s J n) E s₂ else MidAt h₀ L s Mid s₂) E { s with heap := h₁, toks := tk₁ })
    (done : ∀ m' news' h' tk', Fr h₀ L h' m' → News h₀ L h' news' → Mid m' news' → Q .next { s with heap := h', toks := tk' })
    (hE : PassesOwn (model prog w) A env E := by passes_own) :
    wpAny (model prog w) A (exec (.While test body [] pos) env) Q E s := by
  refine wpAny_mono (Q := fun f s' => f = .next ∧ MidAt h₀ L s Mid s') (While_inv J F N hJ (fun n m₁ news₁ h₁ tk₁ F₁ N₁ hj => ?_) hE) ?_ fun _ _ e => e
  · refine wpAny_mono (turn n m₁ news₁ h₁ tk₁ F₁ N₁ hj) (fun b s₂ h => ?_) fun _ _ e => e
    cases b with
    | true => simpa using h
    | false => simpa using h
  · rintro f s' ⟨rfl, h', tk, m', news', rfl, F', N', hm⟩
    exact done m' news' h' tk F' N' hm
noncomputable def NextMid (h₀ : Heap) (L : Addr) (s : Shared) (Mid : Fm → Led → Prop) (f : Flow) (s' : Shared) : Prop := f = .next ∧ MidAt h₀ L s Mid s'
theorem exec_mid {st : Stmt} {m : Fm} {news : Led} (Mid : Fm → Led → Prop) (_F : Fr h₀ L s.heap m) (_N : News h₀ L s.heap news)
    (h : wpAny (model prog w) A (exec st env) (NextMid h₀ L s Mid) E s)
    (done : ∀ m' news' h' tk', Fr h₀ L h' m' → News h₀ L h' news' → Mid m' news' → Q .next { s with heap := h', toks := tk' }) : wpAny (model prog w) A (exec st env) Q E s := by
  refine wpAny_mono h ?_ fun _ _ e => e
  rintro f s' ⟨rfl, h', tk, m', news', rfl, F', N', hm⟩
  exact done m' news' h' tk F' N' hm
theorem NextMid.mk {h' : Heap} {Mid : Fm → Led → Prop} {tk : Nat} {m' : Fm} {news' : Led}
    (F : Fr h₀ L h' m') (N : News h₀ L h' news') (h : Mid m' news') : NextMid h₀ L s Mid .next { s with heap := h', toks := tk } := ⟨rfl, .intro F N h⟩
/-- marks in the context by which a line of one's own knows that it is wanted -/
noncomputable def On (_ : Nat) : Prop := True
theorem on (n : Nat) : On n := trivial
end
/-- the post-condition as a letter: it keeps the terms small -/
noncomputable def Post {α : Type} (Q Q₀ : α → Shared → Prop) : Prop := ∀ f s', Q₀ f s' → Q f s'
theorem Post.of {α : Type} {Q Q₀ : α → Shared → Prop} {f : α} {s : Shared} (h : Post Q Q₀) (hq : Q₀ f s) : Q f s := h f s hq
noncomputable def Post1 (Q Q₀ : Shared → Prop) : Prop := ∀ s', Q₀ s' → Q s'
theorem Post1.of {Q Q₀ : Shared → Prop} {s : Shared} (h : Post1 Q Q₀) (hq : Q₀ s) : Q s := h s hq
theorem abs_all {α : Type} {M : Model} {A : Around} {t : Sem α} {Q₀ : α → Shared → Prop} {E₀ : Value → Shared → Prop} {s : Shared} (h : ∀ Q : α → Shared → Prop, Post Q Q₀ → wpAny M A t Q (fun _ _ => False) s) : wpAny M A t Q₀ E₀ s :=
  wpAny_mono (h Q₀ fun _ _ h => h) (fun _ _ h => h) fun _ _ h => h.elim
theorem abs_while {M : Model} {A : Around} {t : Sem Bool} {b : Sem Flow} {W₀ : Flow → Shared → Prop} {M₀ : Shared → Prop} {E₀ : Value → Shared → Prop} {s : Shared}
    (h : ∀ (W : Flow → Shared → Prop) (Z : Shared → Prop), Post W W₀ → Post1 Z M₀ → wpAny M A t (fun c s₂ => if c = true then wpAny M A b W (fun _ _ => False) s₂ else Z s₂) (fun _ _ => False) s) :
    wpAny M A t (fun c s₂ => if c = true then wpAny M A b W₀ E₀ s₂ else M₀ s₂) E₀ s := by
  refine wpAny_mono (h W₀ M₀ (fun _ _ h => h) fun _ h => h) (fun c s₂ h => ?_) fun _ _ h => h.elim
  split at h
  · rename_i hc
    rw [if_pos hc]
    exact wpAny_mono h (fun _ _ h => h) fun _ _ h => h.elim
  · rename_i hc
    rw [if_neg hc]
    exact h
theorem abs_store {M : Model} {A : Around} {t : Sem Unit} {b : Sem Flow} {Q₀ : Flow → Shared → Prop} {E₀ : Value → Shared → Prop} {s : Shared}
    (h : ∀ Q : Flow → Shared → Prop, Post Q Q₀ → wpAny M A t (fun _ s₂ => wpAny M A b Q (fun _ _ => False) s₂) (fun _ _ => False) s) : wpAny M A t (fun _ s₂ => wpAny M A b Q₀ E₀ s₂) E₀ s :=
  wpAny_mono (h Q₀ fun _ _ h => h) (fun _ _ h => wpAny_mono h (fun _ _ h => h) fun _ _ h => h.elim) fun _ _ h => h.elim
theorem sub_nil {a : Led} : ∀ p ∈ ([] : Led), p ∈ a := fun _ h => absurd h List.not_mem_nil
theorem sub_self {a : Led} : ∀ p ∈ a, p ∈ a := fun _ h => h
theorem all_nil {P : Addr × Obj → Prop} : ∀ p ∈ ([] : Led), P p := fun _ h => absurd h List.not_mem_nil
theorem all_cons {P : Addr × Obj → Prop} {x : Addr × Obj} {b : Led} (h : P x) (t : ∀ p ∈ b, P p) : ∀ p ∈ x :: b, P p := List.forall_mem_cons.mpr ⟨h, t⟩
theorem all_app {P : Addr × Obj → Prop} {b c : Led} (h : ∀ p ∈ b, P p) (t : ∀ p ∈ c, P p) : ∀ p ∈ b ++ c, P p := fun p hp => (List.mem_append.mp hp).elim (h p) (t p)
theorem allNe_of {d e : Addr} {l : Led} (h : AllLt e l) (hd : @LE.le Nat _ e d) : ∀ p ∈ l, p.1 ≠ d := by
  induction l with
  | nil => exact all_nil
  | cons q r ih => exact all_cons (Nat.ne_of_lt (Nat.lt_of_lt_of_le h.1 hd)) (ih h.2)
theorem news_cons {h₀ h : Heap} {L x : Addr} {o : Obj} {r : Led} (h1 : h.get? x = some o) (h2 : x ≠ L) (h3 : h₀.get? x = none) (t : News h₀ L h r) : News h₀ L h ((x, o) :: r) := all_cons ⟨h1, h2, h3⟩ t
theorem news_tail {h₀ h : Heap} {L : Addr} {x : Addr × Obj} {r : Led} (N : News h₀ L h (x :: r)) : News h₀ L h r := fun p hp => N p (.tail _ hp)
theorem sub_cons {a b : Led} {x : Addr × Obj} (h : x ∈ a) (t : ∀ p ∈ b, p ∈ a) : ∀ p ∈ x :: b, p ∈ a := all_cons h t
theorem sub_app {a b c : Led} (h : ∀ p ∈ b, p ∈ a) (t : ∀ p ∈ c, p ∈ a) : ∀ p ∈ b ++ c, p ∈ a := fun p hp => (List.mem_append.mp hp).elim (h p) (t p)
theorem sub_tail {a b : Led} {x : Addr × Obj} (h : ∀ p ∈ b, p ∈ a) : ∀ p ∈ b, p ∈ x :: a := fun p hp => .tail _ (h p hp)
theorem sub_inl {a b c : Led} (h : ∀ p ∈ b, p ∈ a) : ∀ p ∈ b, p ∈ a ++ c := fun p hp => List.mem_append_left _ (h p hp)
theorem sub_inr {a b c : Led} (h : ∀ p ∈ b, p ∈ a) : ∀ p ∈ b, p ∈ c ++ a := fun p hp => List.mem_append_right _ (h p hp)
theorem ne_nil' {d : Addr} : ∀ p ∈ ([] : Led), p.1 ≠ d := fun _ h => absurd h List.not_mem_nil
theorem ne_cons {b : Led} {x d : Addr} {o : Obj} (h : @Ne Nat x d) (t : ∀ p ∈ b, p.1 ≠ d) : ∀ p ∈ (x, o) :: b, p.1 ≠ d := all_cons h t
theorem ne_app {b c : Led} {d : Addr} (h : ∀ p ∈ b, p.1 ≠ d) (t : ∀ p ∈ c, p.1 ≠ d) : ∀ p ∈ b ++ c, p.1 ≠ d := fun p hp => (List.mem_append.mp hp).elim (h p) (t p)
end Mine

namespace Mine
/-- a text by its signs -/
noncomputable def S (l : List Nat) : Str := ⟨l.toArray⟩
theorem S_len (l : List Nat) : (S l).length = l.length := by simp [S, Str.length]
theorem S_inj {a b : List Nat} : (S a = S b) ↔ a = b := by
  constructor
  · intro h
    have := congrArg (fun x : Str => x.cps.toList) h
    simpa [S] using this
  · rintro rfl; rfl
theorem S_beq {a b : List Nat} : (S a == S b) = decide (a = b) := by
  rw [Bool.eq_iff_iff]; simp [S_inj]
theorem S_sn {l : List Nat} {k : Nat} (h : k ≤ l.length) : Txt.slice (S l) (some (k : Int)) none = S (l.drop k) := by
  rw [slice_from_eq (b := ((S l).length : Int)) (by omega) (by rw [S_len]; omega) rfl, S_len]
  unfold S
  have e : ((l.length : Int) - (k : Int)).toNat = l.length - k := by omega
  simp [e]
  rw [List.take_of_length_le (by simp)]
theorem S_ns {l : List Nat} {k : Nat} (h : k ≤ l.length) : Txt.slice (S l) none (some (k : Int)) = S (l.take k) := by
  have := StrLaws.sliceText_to (x := S l) (j := (k : Int)) ⟨by omega, by simp [S]; omega⟩
  show StrLaws.sliceText _ _ _ = _
  rw [this]
  simp [S]
theorem S_nneg {l : List Nat} {k : Nat} (h1 : 1 ≤ k) (h : k ≤ l.length) : Txt.slice (S l) none (some (-(k : Int))) = S (l.take (l.length - k)) := by
  have := StrLaws.sliceText_to_neg (x := S l) (j := -(k : Int)) (by omega) (by rw [S_len]; omega)
  show StrLaws.sliceText _ _ _ = _
  rw [this, S_len]
  have e : (-(k : Int) + (l.length : Int) - 0).toNat = l.length - k := by omega
  rw [e]
  simp [S]
theorem S_nn (l : List Nat) : Txt.slice (S l) none none = S l := by
  have h := S_sn (l := l) (k := 0) (Nat.zero_le _)
  have e : Txt.slice (S l) none none = Txt.slice (S l) (some ((0 : Nat) : Int)) none := by
    show StrLaws.sliceText _ _ _ = StrLaws.sliceText _ _ _
    unfold StrLaws.sliceText
    rw [StrLaws.sliceIdx_none_lo]; rfl
  rw [e, h]; simp
theorem S_item {l : List Nat} {k : Nat} (h : k < l.length) : Txt.item (S l) (k : Int) = S [l[k]] := by
  have : Txt.charAt (S l) (k : Int) = some l[k] := StrLaws.at_nonneg (by omega) (by simp [S, h])
  unfold Txt.item; rw [this]; rfl
theorem S_itemNeg {l : List Nat} {k : Nat} (h : k < l.length) : Txt.item (S l) (-(k : Int) - 1) = S [l[l.length - 1 - k]] := by
  have : Txt.charAt (S l) (-(k : Int) - 1) = some l[l.length - 1 - k] := StrLaws.at_neg (by omega) (by rw [S_len]; omega) (by
    rw [S_len]
    have e : (-(k : Int) - 1 + (l.length : Int)).toNat = l.length - 1 - k := by omega
    rw [e]
    simp [S])
  unfold Txt.item; rw [this]; rfl
end Mine

set_option maxHeartbeats 1000000
namespace Mine
inductive TurnNx (h₀ : Heap) (L I : Addr) (oI : Obj) (keep : Led) (J : Fm → Led → Prop) (gs : Array GenState) (dr : Drawn) (os : OsState) (s' : Shared) : Prop
  | mk (h' : Heap) (tk : Nat) (m' : Fm) (news' : Led) (e : s' = ⟨h', gs, dr, tk, os⟩) (F : Fr h₀ L h' m') (N : News h₀ L h' ((I, oI) :: news')) (hI : ∀ p ∈ news', p.1 ≠ I) (hk : ∀ p ∈ keep, p ∈ news') (hJ : J m' news') : TurnNx h₀ L I oI keep J gs dr os s'
noncomputable def TurnEnd (h₀ : Heap) (L I : Addr) (oI : Obj) (keep : Led) (J : Fm → Led → Prop) (s : Shared) (Q : Flow → Shared → Prop) (f : Flow) (s' : Shared) : Prop :=
  match f with
  | .ret v => Q (.ret v) s'
  | .brk => Q .next s'
  | _ => TurnNx h₀ L I oI keep J s.gens s.drawn s.os s'
theorem TurnEnd.next {h₀ h' : Heap} {L I : Addr} {oI : Obj} {keep : Led} {J : Fm → Led → Prop} {s : Shared} {Q : Flow → Shared → Prop} {tk : Nat} {m' : Fm} (news' : Led)
    (F : Fr h₀ L h' m') (N : News h₀ L h' ((I, oI) :: news')) (hI : ∀ p ∈ news', p.1 ≠ I) (hk : ∀ p ∈ keep, p ∈ news') (hJ : J m' news') :
    TurnEnd h₀ L I oI keep J s Q .next { s with heap := h', toks := tk } := TurnNx.mk h' tk m' news' rfl F N hI hk hJ
/-- an object that is no code's record -/
noncomputable def NotStr1 (o : Obj) : Prop := ∀ vs x t, o.data = .fields vs → vs[1]? ≠ some (.str x t)
theorem NotStr1.iter {h : Heap} {I : Addr} {a b c : Int} {o : Obj} (hI : IsRangeIter h I a b c) (ho : h.get? I = some o) : NotStr1 o := by
  rw [show o = _ from Option.some.inj (ho.symm.trans hI)]
  intro vs x t hv q
  rw [← Data.fields.inj hv] at q
  exact absurd (Option.some.inj q) (fun h => by unfold rawInt at h; cases h)
section
variable {prog : Program} {w : World} {A : Around} {E : Value → Shared → Prop} {Q : Flow → Shared → Prop} {s : Shared} {env : Env} {h₀ : Heap} {x : Str} {body : List Stmt}
theorem loop_gen {I : Addr} {fp : List Addr} {n : Nat} {P : Nat → Value → Prop} {St : Nat → Heap → Prop} {m : Fm} {news : Led} (J : Nat → Fm → Led → Prop) (keep : Led)
    (W : Walks prog w A I fp [I] n P St) (hfp : ∀ b ∈ fp, b ≠ I → ∃ o, (b, o) ∈ keep) (hIo : ∀ i h, St i h → ∃ o, h.get? I = some o)
    (hL : env.locals ∉ fp) (hI₀ : h₀.get? I = none) (st : St 0 s.heap) (F : Fr h₀ env.locals s.heap m) (N : News h₀ env.locals s.heap news) (hnI : ∀ p ∈ news, p.1 ≠ I) (hkeep : ∀ p ∈ keep, p ∈ news) (hJ : J 0 m news)
    (turn : ∀ i v m₁ news₁ oI h tk, i < n → P i v → J i m₁ news₁ → (∀ p ∈ keep, p ∈ news₁) → (∀ p ∈ news₁, p.1 ≠ I) → Fr h₀ env.locals h (fun y => if y = x then some v else m₁ y) → News h₀ env.locals h ((I, oI) :: news₁) → St (i + 1) h →
      wpAny (model prog w) A (execs body env) (TurnEnd h₀ env.locals I oI keep (J (i + 1)) s Q) E { s with heap := h, toks := tk })
    (done : ∀ m₁ news₁ h tk, J n m₁ news₁ → (∀ p ∈ keep, p ∈ news₁) → Fr h₀ env.locals h m₁ → News h₀ env.locals h news₁ → Q .next { s with heap := h, toks := tk }) :
    LoopAtV prog w A h₀ env x body Q E (.ref I) s := by
  refine ⟨I, fp, [I], n, P, St, m, news, (fun i m' nw => J i m' nw ∧ ∀ p ∈ keep, p ∈ nw), rfl, W, hL, ?_, ?_, st, F, N, ⟨hJ, hkeep⟩, ?_, ?_⟩
  · intro b hb; rw [List.mem_singleton.mp hb]; exact hI₀
  · intro p hp hm; exact hnI p hp (List.mem_singleton.mp hm)
  · rintro i v m₁ news₁ s₁ own ⟨h, tk, rfl⟩ hi hP ⟨hJ₁, hk₁⟩ hw hsub hget hall hst F₁ N₁
    obtain ⟨oI, hoI⟩ := hIo _ _ hst
    have hIf : I ∈ fp := W.sub I (List.mem_singleton.mpr rfl)
    have hnI₁ : ∀ p ∈ news₁, p.1 ≠ I := fun p hp e => hw p hp (List.mem_singleton.mpr e)
    have N₂ : News h₀ env.locals h ((I, oI) :: news₁) := all_cons (N₁ _ (List.mem_append_left _ (hall I hIf hI₀ oI hoI))) fun p hp => N₁ _ (List.mem_append_right _ hp)
    refine wpAny_mono (turn i v m₁ news₁ oI h tk hi hP hJ₁ hk₁ hnI₁ F₁ N₂ hst) (fun f s' hf => ?_) fun _ _ e => e
    have fin : TurnNx h₀ env.locals I oI keep (J (i + 1)) s.gens s.drawn s.os s' → LoopStepU h₀ env.locals [I] own (fun m' nw => J (i + 1) m' nw ∧ ∀ p ∈ keep, p ∈ nw) { s with heap := h, toks := tk } .next s' := by
      rintro ⟨h', tk', m', news', rfl, F', N', hI', hk', hJ'⟩
      refine ⟨rfl, h', tk', m', news', rfl, F', all_app (fun p hp => ?_) fun p hp => N' _ (.tail _ hp), (fun p hp hm => hI' p hp (List.mem_singleton.mp hm)), hJ', hk'⟩
      have g : h.get? p.1 = some p.2 := hget p hp
      by_cases e : p.1 = I
      · rw [show p = (I, oI) from Prod.ext e (Option.some.inj (g.symm.trans ((congrArg h.get? e).trans hoI)))]
        exact N' _ (.head _)
      · obtain ⟨o, ho⟩ := hfp p.1 (hsub p hp) e
        have g2 : h.get? p.1 = some o := (N₂ _ (.tail _ (hk₁ _ ho))).1
        rw [show p = (p.1, o) from Prod.ext rfl (Option.some.inj (g.symm.trans g2))]
        exact N' _ (.tail _ (hk' _ ho))
    cases f with
    | ret v => exact .ret hf
    | brk => exact .brk hf
    | next => exact .next (fin hf)
    | cont => exact .cont (fin hf)
  · rintro h' tk m' news' F' N' _ ⟨hJ', hk'⟩
    exact done m' news' h' tk hJ' hk' F' N'

theorem loop_rangeI {r : Addr} {a₀ b₀ : Int} {t₀ u₀ v₀ : Tok} {m : Fm} {news : Led} (n : Nat) (J : Nat → Fm → Led → Prop)
    (hh : A.handled = none) (hr : IsRange s.heap r a₀ b₀ 1 t₀ u₀ v₀) (hsmall : Builtin.Range.small a₀ b₀ 1 = true) (hn : Builtin.Range.rangeSize a₀ b₀ 1 = (n : Int)) (F : Fr h₀ env.locals s.heap m) (N : News h₀ env.locals s.heap news) (hJ : J 0 m news)
    (turn : ∀ i t m₁ news₁ I oI h tk, i < n → J i m₁ news₁ → (∀ p ∈ news₁, p.1 ≠ I) → Fr h₀ env.locals h (fun y => if y = x then some (.int (a₀ + (i : Int)) t) else m₁ y) → News h₀ env.locals h ((I, oI) :: news₁) → NotStr1 oI →
      wpAny (model prog w) A (execs body env) (TurnEnd h₀ env.locals I oI [] (J (i + 1)) s Q) E { s with heap := h, toks := tk })
    (done : ∀ m₁ news₁ h tk, J n m₁ news₁ → Fr h₀ env.locals h m₁ → News h₀ env.locals h news₁ → Q .next { s with heap := h, toks := tk }) :
    wpAny (model prog w) A (pyIter (.ref r)) (fun it s₂ => LoopAtV prog w A h₀ env x body Q E it s₂) E s := by
  refine wpAny_pyIter_range hr hsmall ?_
  have W : Walks prog w A s.heap.objs.size [s.heap.objs.size] [s.heap.objs.size] n (fun i v => i < n ∧ ∃ t, v = .int (a₀ + i * 1) t)
      (fun i h => IsRangeIter h s.heap.objs.size (a₀ + (i : Nat) * 1) ((n : Int) - (i : Nat)) 1) := (Walks.range hh _ a₀ 1 n).bound
  refine loop_gen J [] W ?_ (fun i h st => ⟨_, st⟩) ?_ (next_is_new F) (by show IsRangeIter _ _ _ _ _; rw [hn]; simpa using Heap.get?_push_size _ rfl) (F.push _) (fun p hp => ⟨Heap.get?_push_of_some _ (N p hp).1, (N p hp).2⟩) ?_ (fun _ h => nomatch h) hJ ?_ ?_
  · intro b hb hne; exact absurd (List.mem_singleton.mp hb) hne
  · intro hm; exact absurd F.ns.lt ((List.mem_singleton.mp hm) ▸ Nat.lt_irrefl _)
  · intro p hp hI; exact absurd (Heap.lt_size (N p hp).1) (hI ▸ Nat.lt_irrefl _)
  · rintro i v m₁ news₁ oI h tk hi ⟨_, t, rfl⟩ hJ₁ _ hnI F₁ N₁ hst
    have e1 : a₀ + (i : Int) * 1 = a₀ + (i : Int) := by omega
    rw [e1] at F₁
    exact turn i t m₁ news₁ _ oI h tk hi hJ₁ hnI F₁ N₁ (NotStr1.iter hst (N₁ _ (.head _)).1)
  · intro m₁ news₁ h tk hJ₁ _ F₁ N₁
    exact done m₁ news₁ h tk hJ₁ F₁ N₁
theorem loop_range {r : Addr} {a₀ b₀ : Int} {t₀ u₀ v₀ : Tok} {m : Fm} {news : Led} (n : Nat) (J : Nat → Fm → Led → Prop)
    (hh : A.handled = none) (hr : IsRange s.heap r a₀ b₀ 1 t₀ u₀ v₀) (hsmall : Builtin.Range.small a₀ b₀ 1 = true) (hn : Builtin.Range.rangeSize a₀ b₀ 1 = (n : Int)) (F : Fr h₀ env.locals s.heap m) (N : News h₀ env.locals s.heap news) (hJ : J 0 m news)
    (turn : ∀ i t m₁ news₁ I oI h tk, i < n → J i m₁ news₁ → (∀ p ∈ news₁, p.1 ≠ I) → Fr h₀ env.locals h (fun y => if y = x then some (.int (a₀ + (i : Int)) t) else m₁ y) → News h₀ env.locals h ((I, oI) :: news₁) →
      wpAny (model prog w) A (execs body env) (TurnEnd h₀ env.locals I oI [] (J (i + 1)) s Q) E { s with heap := h, toks := tk })
    (done : ∀ m₁ news₁ h tk, J n m₁ news₁ → Fr h₀ env.locals h m₁ → News h₀ env.locals h news₁ → Q .next { s with heap := h, toks := tk }) :
    wpAny (model prog w) A (pyIter (.ref r)) (fun it s₂ => LoopAtV prog w A h₀ env x body Q E it s₂) E s :=
  loop_rangeI n J hh hr hsmall hn F N hJ (fun i t m₁ news₁ I oI h tk hi hJ₁ hnI F₁ N₁ _ => turn i t m₁ news₁ I oI h tk hi hJ₁ hnI F₁ N₁) done
theorem loop_list {l : Addr} {its : Array Value} {e : Nat} {m : Fm} {news : Led} (J : Nat → Fm → Led → Prop)
    (hh : A.handled = none) (hm : (l, listOf its e) ∈ news) (F : Fr h₀ env.locals s.heap m) (N : News h₀ env.locals s.heap news) (hJ : J 0 m news)
    (turn : ∀ i v m₁ news₁ I oI h tk, its[i]? = some v → J i m₁ news₁ → (l, listOf its e) ∈ news₁ → (∀ p ∈ news₁, p.1 ≠ I) → Fr h₀ env.locals h (fun y => if y = x then some v else m₁ y) → News h₀ env.locals h ((I, oI) :: news₁) →
      wpAny (model prog w) A (execs body env) (TurnEnd h₀ env.locals I oI [(l, listOf its e)] (J (i + 1)) s Q) E { s with heap := h, toks := tk })
    (done : ∀ m₁ news₁ h tk, J its.size m₁ news₁ → (l, listOf its e) ∈ news₁ → Fr h₀ env.locals h m₁ → News h₀ env.locals h news₁ → Q .next { s with heap := h, toks := tk }) :
    wpAny (model prog w) A (pyIter (.ref l)) (fun it s₂ => LoopAtV prog w A h₀ env x body Q E it s₂) E s := by
  have hls : s.heap.IsList l its := ⟨_, (N _ hm).1, rfl, _, rfl⟩
  have hlt : l < s.heap.objs.size := Heap.lt_size (N _ hm).1
  have hne : l ≠ s.heap.objs.size := Nat.ne_of_lt hlt
  refine wpAny_pyIter_list hls ?_
  refine loop_gen J [(l, listOf its e)] (Walks.list (prog := prog) (w := w) hh s.heap.objs.size l hne its) ?_ (fun i h st => by obtain ⟨o, e, _⟩ := st.1; exact ⟨o, e⟩) ?_ (next_is_new F) ⟨⟨_, Heap.get?_push_size _ rfl, rfl, rfl⟩, hls.push _⟩ (F.push _) (fun p hp => ⟨Heap.get?_push_of_some _ (N p hp).1, (N p hp).2⟩) ?_ ?_ hJ ?_ ?_
  · intro b hb hne'
    rcases List.mem_cons.mp hb with rfl | hb
    · exact absurd rfl hne'
    · rw [List.mem_singleton.mp hb]; exact ⟨_, .head _⟩
  · intro hm'
    rcases List.mem_cons.mp hm' with e' | hm'
    · exact absurd F.ns.lt (e' ▸ Nat.lt_irrefl _)
    · exact (N _ hm).2.1 (List.mem_singleton.mp hm').symm
  · intro p hp hI; exact absurd (Heap.lt_size (N p hp).1) (hI ▸ Nat.lt_irrefl _)
  · intro p hp; rw [List.mem_singleton.mp hp]; exact hm
  · intro i v m₁ news₁ oI h tk hi hP hJ₁ hk hnI F₁ N₁ _
    exact turn i v m₁ news₁ _ oI h tk hP hJ₁ (hk _ (.head _)) hnI F₁ N₁
  · intro m₁ news₁ h tk hJ₁ hk F₁ N₁
    exact done m₁ news₁ h tk hJ₁ (hk _ (.head _)) F₁ N₁
theorem ints_of_get (vs : List Value) : ∀ (ns : List Int), vs.length = ns.length → (∀ (j : Nat) (v : Value), vs[j]? = some v → ∃ n t, ns[j]? = some n ∧ v = .int n t) → IntsAre vs ns := by
  induction vs with
  | nil =>
    intro ns e _
    rw [List.eq_nil_of_length_eq_zero e.symm]
    exact IntsAre.nil
  | cons v r ih =>
    intro ns e h
    obtain ⟨n, t, hn, rfl⟩ := h 0 v rfl
    cases ns with
    | nil => exact absurd hn.symm (Option.some_ne_none _)
    | cons n' ns =>
      rw [show n = n' from (Option.some.inj hn).symm]
      exact IntsAre.cons _ _ (ih ns (Nat.succ.inj e) fun j v hj => h (j + 1) v hj)
theorem list_rangeC {L r : Addr} {a b c : Int} {t₀ u₀ v₀ : Tok} {m : Fm} {news : Led} {Q : Value → Shared → Prop} (n : Nat) (hh : A.handled = none) (F : Fr h₀ L s.heap m) (N : News h₀ L s.heap news) (hr : IsRange s.heap r a b c t₀ u₀ v₀) (hsmall : Builtin.Range.small a b c = true) (hn : Builtin.Range.rangeSize a b c = (n : Int)) (hz : n ≤ 2 ^ 24)
    (h : ∀ D us e h' tk, Fr h₀ L h' m → News h₀ L h' ((D, listOf (List.toArray us) e) :: news) → (∀ p ∈ news, p.1 < D) → IntsAre us ((List.range n).map fun (i : Nat) => a + (i : Int) * c) → Q (.ref D) { s with heap := h', toks := tk }) :
    wpAny (model prog w) A (call (.type "list") [.ref r]) Q E s := by
  refine call_list_range hh hr hsmall hn hz fun h' tk acc e hk hD hI => ?_
  have hD' : h'.get? s.heap.objs.size = some (listOf (List.toArray acc.toList) e) := by
    rw [Array.toArray_toList]
    exact hD
  refine h _ acc.toList e h' tk (F.keeps hk) (news_pushed F N hk hD' rfl) (fun p hp => Heap.lt_size (N p hp).1) (ints_of_get _ _ (by rw [Array.length_toList, List.length_map, List.length_range]; exact hI.1) fun j v hj => ?_)
  obtain ⟨t, rfl⟩ := hI.2 j v (by rw [← hj, Array.getElem?_toList])
  have hj' : j < n := by
    have := (List.getElem?_eq_some_iff.mp hj).1
    rw [Array.length_toList, hI.1] at this
    exact this
  exact ⟨_, t, by simp [hj'], rfl⟩
end
end Mine

namespace Mine
noncomputable def trimPre : List Nat → List Nat → List Nat × List Nat
  | a :: as, b :: bs => if a = b then trimPre as bs else (a :: as, b :: bs)
  | as, bs => (as, bs)
noncomputable def trimPost (a b : List Nat) : List Nat × List Nat := ((trimPre a.reverse b.reverse).1.reverse, (trimPre a.reverse b.reverse).2.reverse)
noncomputable def substCost (x y : Str) : Int := if (x == y) = true then 0 else if (Txt.lower x == Txt.lower y) = true then 1 else 2
noncomputable def substC (c d : Nat) : Int := substCost (S [c]) (S [d])
noncomputable abbrev LevSt := Int × Int × Int × List Int
noncomputable def innerR (c : Nat) (a : List Nat) (i : Nat) (st : LevSt) : Int :=
  if st.1 + substC c (a.getD i 0) < (if st.2.2.2.getD i 0 < st.2.1 then st.2.2.2.getD i 0 else st.2.1) + 2 then st.1 + substC c (a.getD i 0) else (if st.2.2.2.getD i 0 < st.2.1 then st.2.2.2.getD i 0 else st.2.1) + 2
noncomputable def innerF (c : Nat) (a : List Nat) (i : Nat) (st : LevSt) : LevSt :=
  (st.2.2.2.getD i 0, innerR c a i st, (if innerR c a i st < st.2.2.1 then innerR c a i st else st.2.2.1), st.2.2.2.set i (innerR c a i st))
noncomputable def innerN (c : Nat) (a : List Nat) (st : LevSt) : Nat → LevSt
  | 0 => st
  | i + 1 => innerF c a i (innerN c a st i)
noncomputable def outerF (a b : List Nat) (mc : Int) (j : Nat) (st : Int × List Int) : Option (Int × List Int) :=
  let r := innerN (b.getD j 0) a ((j : Int) * 2, (j : Int) * 2, 9223372036854775807, st.2) a.length
  if r.2.2.1 > mc then none else some (r.2.1, r.2.2.2)
noncomputable def outerN (a b : List Nat) (mc : Int) (st : Int × List Int) : Nat → Option (Int × List Int)
  | 0 => some st
  | j + 1 => (outerN a b mc st j).bind (outerF a b mc j)
noncomputable def row0 (n : Nat) : List Int := (List.range n).map fun (i : Nat) => 2 + (i : Int) * 2
noncomputable def levP (x y : List Nat) (mc : Int) : Option Int :=
  if x = y then some 0 else
  let p := trimPre x y
  let q := trimPost p.1 p.2
  if q.1 = [] ∨ q.2 = [] then some (2 * ((q.1.length : Int) + q.2.length)) else
  if q.1.length ≠ q.2.length ∨ mc < 0 then none else
  (outerN q.1 q.2 mc (0, row0 q.1.length) q.2.length).map (·.1)
theorem trimPre_step {x y : List Nat} {k : Nat} (h1 : k < x.length) (h2 : k < y.length) (e : x[k] = y[k]) : trimPre (x.drop k) (y.drop k) = trimPre (x.drop (k + 1)) (y.drop (k + 1)) := by
  rw [List.drop_eq_getElem_cons h1, List.drop_eq_getElem_cons h2, trimPre, if_pos e]
theorem trimPre_stop {x y : List Nat} {k : Nat} (h1 : k < x.length) (h2 : k < y.length) (e : x[k] ≠ y[k]) : trimPre (x.drop k) (y.drop k) = (x.drop k, y.drop k) := by
  rw [List.drop_eq_getElem_cons h1, List.drop_eq_getElem_cons h2, trimPre, if_neg e]
theorem trimPre_nil {x y : List Nat} (h : x = [] ∨ y = []) : trimPre x y = (x, y) := by
  rcases h with rfl | rfl
  · cases y <;> simp [trimPre]
  · cases x <;> simp [trimPre]
theorem rev_take {x : List Nat} {k : Nat} : (x.take (x.length - k)).reverse = x.reverse.drop k := by
  rw [List.reverse_take]
  by_cases h : k ≤ x.length
  · congr 1; omega
  · rw [List.drop_eq_nil_of_le (by simp; omega), List.drop_eq_nil_of_le (by simp; omega)]
theorem trimPost_take (x y : List Nat) (k : Nat) : trimPost (x.take (x.length - k)) (y.take (y.length - k)) = ((trimPre (x.reverse.drop k) (y.reverse.drop k)).1.reverse, (trimPre (x.reverse.drop k) (y.reverse.drop k)).2.reverse) := by
  unfold trimPost; rw [rev_take, rev_take]
theorem trimPost_step {x y : List Nat} {k : Nat} (h1 : k < x.length) (h2 : k < y.length) (e : x[x.length - 1 - k] = y[y.length - 1 - k]) :
    trimPost (x.take (x.length - k)) (y.take (y.length - k)) = trimPost (x.take (x.length - (k + 1))) (y.take (y.length - (k + 1))) := by
  rw [trimPost_take, trimPost_take, trimPre_step (by simpa using h1) (by simpa using h2) (by rw [List.getElem_reverse, List.getElem_reverse]; exact e)]
theorem trimPost_stop {x y : List Nat} {k : Nat} (h1 : k < x.length) (h2 : k < y.length) (e : x[x.length - 1 - k] ≠ y[y.length - 1 - k]) :
    trimPost (x.take (x.length - k)) (y.take (y.length - k)) = (x.take (x.length - k), y.take (y.length - k)) := by
  rw [trimPost_take, trimPre_stop (by simpa using h1) (by simpa using h2) (by rw [List.getElem_reverse, List.getElem_reverse]; exact e), ← rev_take, ← rev_take, List.reverse_reverse, List.reverse_reverse]
theorem trimPost_nil {x y : List Nat} {k : Nat} (h : x.length ≤ k ∨ y.length ≤ k) :
    trimPost (x.take (x.length - k)) (y.take (y.length - k)) = (x.take (x.length - k), y.take (y.length - k)) := by
  rw [trimPost_take, trimPre_nil, ← rev_take, ← rev_take, List.reverse_reverse, List.reverse_reverse]
  rcases h with h | h
  · left; exact List.drop_eq_nil_of_le (by simpa using h)
  · right; exact List.drop_eq_nil_of_le (by simpa using h)
theorem outerN_mono {a b : List Nat} {mc : Int} {st : Int × List Int} {n : Nat} : ∀ {r}, outerN a b mc st n = some r → ∀ j, j ≤ n → ∃ r', outerN a b mc st j = some r' := by
  induction n with
  | zero => exact fun {r} h j hj => ⟨r, Nat.le_zero.mp hj ▸ h⟩
  | succ n ih =>
    intro r h j hj
    rcases Nat.lt_or_eq_of_le hj with hj | rfl
    · rw [outerN] at h
      cases hq : outerN a b mc st n with
      | none => rw [hq] at h; exact absurd h.symm (Option.some_ne_none _)
      | some r' => exact ih hq j (Nat.le_of_lt_succ hj)
    · exact ⟨r, h⟩
theorem innerF_len (c : Nat) (a : List Nat) (i : Nat) (st : LevSt) : (innerF c a i st).2.2.2.length = st.2.2.2.length := by simp [innerF]
theorem innerN_len (c : Nat) (a : List Nat) (st : LevSt) (i : Nat) : (innerN c a st i).2.2.2.length = st.2.2.2.length := by
  induction i with
  | zero => rfl
  | succ i ih => rw [innerN, innerF_len, ih]
end Mine
namespace Mine
theorem levP_ne {x y : List Nat} {mc R : Int} (h : x ≠ y) {xa yb qa qb : List Nat} (e1 : trimPre x y = (xa, yb)) (e2 : trimPost xa yb = (qa, qb)) (hP : levP x y mc = some R) :
    (qa = [] ∨ qb = []) ∧ R = 2 * ((qa.length : Int) + qb.length) ∨ (qa ≠ [] ∧ qb ≠ [] ∧ qa.length = qb.length ∧ 0 ≤ mc ∧ ∃ rw, outerN qa qb mc (0, row0 qa.length) qb.length = some (R, rw)) := by
  simp only [levP, if_neg h, e1, e2] at hP
  by_cases hz : qa = [] ∨ qb = []
  · rw [if_pos hz] at hP
    cases hP
    exact .inl ⟨hz, rfl⟩
  · rw [if_neg hz] at hP
    by_cases hl : qa.length ≠ qb.length ∨ mc < 0
    · rw [if_pos hl] at hP; cases hP
    · rw [if_neg hl] at hP
      cases ho : outerN qa qb mc (0, row0 qa.length) qb.length with
      | none => rw [ho] at hP; cases hP
      | some r =>
        rw [ho] at hP
        obtain ⟨r1, r2⟩ := r
        cases hP
        exact .inr ⟨fun q => hz (.inl q), fun q => hz (.inr q), by omega, by omega, r2, rfl⟩
theorem range2_size (n : Nat) : Builtin.Range.rangeSize 2 (2 * ((n : Int) + 1)) 2 = (n : Int) := by
  unfold Builtin.Range.rangeSize
  simp only [show (2 : Int) > 0 by decide, if_true]
  split <;> omega
theorem fitsL {i : Int} (h1 : -10000000 ≤ i) (h2 : i ≤ 10000000) : Builtin.Range.rangeFitsLong i = true := by
  unfold Builtin.Range.rangeFitsLong
  rw [Bool.and_eq_true, decide_eq_true_eq, decide_eq_true_eq]
  constructor
  · exact Int.le_trans (by decide) h1
  · exact Int.lt_of_le_of_lt h2 (by decide)
theorem range2_small (n : Nat) (h : n ≤ 1000) : Builtin.Range.small 2 (2 * ((n : Int) + 1)) 2 = true := by
  unfold Builtin.Range.small
  rw [range2_size, if_pos (by decide : (2 : Int) > 0), fitsL (i := 2) (by decide) (by decide), fitsL (i := 2 * ((n : Int) + 1)) (by omega) (by omega), fitsL (i := (n : Int)) (by omega) (by omega), fitsL (i := 2 * ((n : Int) + 1) + (2 - 1)) (by omega) (by omega)]
  simp
theorem some_str {a b : Str} {t : Tok} (h : a = b) : some (Value.str a t) = some (Value.str b t) := by rw [h]
theorem some_intL {a b : Int} {t : Tok} (h : a = b) : some (Value.int a t) = some (Value.int b t) := by rw [h]
theorem outer_step {qa qb : List Nat} {mc : Int} {st : Int × List Int} {j : Nat} {r r' : Int} {row row' : List Int} (hj : j < qb.length) (hoj : outerN qa qb mc st j = some (r, row)) (h : outerN qa qb mc st (j + 1) = some (r', row')) :
    ¬ (innerN qb[j] qa ((j : Int) * 2, (j : Int) * 2, 9223372036854775807, row) qa.length).2.2.1 > mc ∧ r' = (innerN qb[j] qa ((j : Int) * 2, (j : Int) * 2, 9223372036854775807, row) qa.length).2.1 ∧ row' = (innerN qb[j] qa ((j : Int) * 2, (j : Int) * 2, 9223372036854775807, row) qa.length).2.2.2 := by
  rw [outerN, hoj, Option.bind_some] at h
  have e : qb.getD j 0 = qb[j] := by simp [hj]
  simp only [outerF, e] at h
  split at h
  · cases h
  · rename_i hn
    cases h
    exact ⟨hn, rfl, rfl⟩
theorem post_eq {xa yb : List Nat} {k : Nat} {i : Int} (h1 : k < xa.length) (h2 : k < yb.length) (e : (Txt.item (S xa) i == Txt.item (S yb) i) = true) (hi : i = -(k : Int) - 1) :
    trimPost (xa.take (xa.length - k)) (yb.take (yb.length - k)) = trimPost (xa.take (xa.length - (k + 1))) (yb.take (yb.length - (k + 1))) := by
  subst hi
  rw [S_itemNeg h1, S_itemNeg h2, S_beq, decide_eq_true_eq, List.cons.injEq] at e
  exact trimPost_step h1 h2 e.1
theorem post_ne {xa yb : List Nat} {k : Nat} {i : Int} (h1 : k < xa.length) (h2 : k < yb.length) (e : (Txt.item (S xa) i == Txt.item (S yb) i) = false) (hi : i = -(k : Int) - 1) :
    trimPost (xa.take (xa.length - k)) (yb.take (yb.length - k)) = (xa.take (xa.length - k), yb.take (yb.length - k)) := by
  subst hi
  rw [S_itemNeg h1, S_itemNeg h2, S_beq, decide_eq_false_iff_not, List.cons.injEq] at e
  exact trimPost_stop h1 h2 fun q => e ⟨q, rfl⟩
end Mine

namespace Mine
theorem fill1 : PySem.Challenge.rw_re0095_01 = PySem.Challenge.rw_re0095_01 ∧ hd.heap_39 = hd.heap_39 := by
  k_fill
  exact ⟨rfl, rfl⟩
section
variable {w : World} {p : Program} {loose : List Str} {mean : ExcName → Option Value} {mg mb : Fm} {dp un : Nat} {gd : Option (List Code)} {cn : Str} {cs : Scope} {a : Addr} {ccd : Value} {cl : List (Str × Addr)} {outer : List Env} {A₀ : Around} {base h₀ : Heap} {L : Addr} {m : Fm} {s : Shared} {Q E : Value → Shared → Prop} {news : Led}
theorem subst_cost {x y : Str} {tx ty : Tok}
   (B : Below A₀ base outer h₀) (F : Fr h₀ L s.heap m) (X : (hd.heap_39 w.params).In h₀) (N : News h₀ L s.heap news) (T : Top p loose mean mg mb h₀) (hk : cs.kind = .function)
   (hx : x.length ≤ 1) (hy : y.length ≤ 1) (hdp : dp + 1 < recursionLimit) (hu : un + 8 < cLine)
   (hret : ∀ (t : Tok) (h' : Heap) (tk' : Nat), Fr h₀ L h' m → News h₀ L h' news → Q (.int (substCost x y) t) { s with heap := h', toks := tk' }) :
   wpAny (model P0 w) (ktrTop dp un gd cn cs L a ccd cl outer) (call (.ref 84) [.str x tx, .str y ty]) Q E s := by
  refine wpAny_call ?_
  k_dflt cell_enter
  refine abs_all fun QF hQF => ?_
  (repeat' (first | (k_unfold; (try dsimp only)) | walk1 | (dsimp only; walk1) | ((with_reducible rename Post _ _ => hP'); (with_reducible refine Post.of hP' ?_))))
  · refine cb_retI (Q := Q) hret ?_ (by assumption) (by assumption)
    rename (x == y) = true => e
    simp [substCost, e]
  · refine cb_retI (Q := Q) hret ?_ (by assumption) (by assumption)
    rename (x == y) = false => e
    rename (Txt.lower x == Txt.lower y) = true => e'
    simp only [substCost, e, e', if_true, Bool.false_eq_true, if_false]
  · refine cb_retI (Q := Q) hret ?_ (by assumption) (by assumption)
    rename (x == y) = false => e
    rename (Txt.lower x == Txt.lower y) = false => e'
    simp only [substCost, e, e', if_true, Bool.false_eq_true, if_false]
end
end Mine

namespace Mine
theorem fill3 : PySem.Challenge.rw_re0095_01 = PySem.Challenge.rw_re0095_01 ∧ hd.heap_39 = hd.heap_39 := by
  k_fill
  exact ⟨rfl, rfl⟩
local macro_rules | `(tactic| walk_at $s:str) => do if ["exec While BoolOp", "exec For Name Call cons nil", "pyIter ref", "setItem ref int", "call ref", "call type:list"].contains s.getString then `(tactic| refine Stop.mk ?_) else Lean.Macro.throwUnsupported
local macro_rules | `(tactic| walk_at "exec Assign cons Subscript") => `(tactic| ((with_reducible rename On 2 => nt'); refine Stop.mk ?_))
local macro_rules | `(tactic| walk_at "subscriptTail Name Slice str ref") => `(tactic| ((with_reducible rename On 1 => nt'); exfalso; omega))
local macro_rules | `(tactic| walk_at "subscriptTail Name Slice str ref") => `(tactic| ((with_reducible rename On 0 => nt'); (with_reducible rename Fr _ _ _ _ => F'); (with_reducible rename News _ _ _ _ => N'); (refine slice_strN_nn (hsz := ?hsz) (s := ⟨_, _, _, _, _⟩) F' N' ?_); (case hsz => size_fits); intro _ _ _ _ _))
inductive LJ1 (x y : List Nat) (mc : Int) (tx ty tm : Tok) (news : Led) (n : Nat) (m' : Fm) (news' : Led) : Prop
  | mk (k : Nat) (t : Tok) (h0 : n = x.length - k) (h1 : news' = news) (h2 : m' "a" = some (.str (S x) tx)) (h3 : m' "b" = some (.str (S y) ty)) (h4 : m' "max_cost" = some (.int mc tm)) (h5 : m' "pre" = some (.int k t)) (h6 : k ≤ x.length) (h7 : k ≤ y.length) (h8 : trimPre x y = trimPre (x.drop k) (y.drop k)) : LJ1 x y mc tx ty tm news n m' news'
inductive LM1 (x y : List Nat) (mc : Int) (tx ty tm : Tok) (news : Led) (m' : Fm) (news' : Led) : Prop
  | mk (k : Nat) (t : Tok) (h0 : news' = news) (h1 : m' "a" = some (.str (S x) tx)) (h2 : m' "b" = some (.str (S y) ty)) (h3 : m' "max_cost" = some (.int mc tm)) (h4 : m' "pre" = some (.int k t)) (h5 : k ≤ x.length) (h6 : k ≤ y.length) (h7 : trimPre x y = (x.drop k, y.drop k)) : LM1 x y mc tx ty tm news m' news'
inductive LJ2 (xa yb : List Nat) (mc : Int) (tm : Tok) (news : Led) (n : Nat) (m' : Fm) (news' : Led) : Prop
  | mk (k : Nat) (t ta tb : Tok) (h0 : n = xa.length - k) (h1 : news' = news) (h2 : m' "a" = some (.str (S xa) ta)) (h3 : m' "b" = some (.str (S yb) tb)) (h4 : m' "max_cost" = some (.int mc tm)) (h5 : m' "post" = some (.int (-(k : Int)) t)) (h6 : k ≤ xa.length) (h7 : k ≤ yb.length) (h8 : trimPost xa yb = trimPost (xa.take (xa.length - k)) (yb.take (yb.length - k))) : LJ2 xa yb mc tm news n m' news'
inductive LM2 (xa yb : List Nat) (mc : Int) (tm : Tok) (news : Led) (m' : Fm) (news' : Led) : Prop
  | mk (k : Nat) (t ta tb : Tok) (h0 : news' = news) (h1 : m' "a" = some (.str (S xa) ta)) (h2 : m' "b" = some (.str (S yb) tb)) (h3 : m' "max_cost" = some (.int mc tm)) (h4 : m' "post" = some (.int (-(k : Int)) t)) (h5 : k ≤ xa.length) (h6 : k ≤ yb.length) (h7 : trimPost xa yb = (xa.take (xa.length - k), yb.take (yb.length - k))) : LM2 xa yb mc tm news m' news'
inductive LE1 (qa yb : List Nat) (mc : Int) (tm t tb : Tok) (k : Nat) (news : Led) (m' : Fm) (news' : Led) : Prop
  | mk (ta : Tok) (h0 : news' = news) (h1 : m' "a" = some (.str (S qa) ta)) (h2 : m' "b" = some (.str (S yb) tb)) (h3 : m' "max_cost" = some (.int mc tm)) (h4 : m' "post" = some (.int (-(k : Int)) t)) : LE1 qa yb mc tm t tb k news m' news'
inductive LE2 (qa qb : List Nat) (mc : Int) (tm ta : Tok) (news : Led) (m' : Fm) (news' : Led) : Prop
  | mk (tb : Tok) (h0 : news' = news) (h1 : m' "a" = some (.str (S qa) ta)) (h2 : m' "b" = some (.str (S qb) tb)) (h3 : m' "max_cost" = some (.int mc tm)) : LE2 qa qb mc tm ta news m' news'
inductive LJ3 (qa qb : List Nat) (mc : Int) (D : Addr) (ta tb tm : Tok) (news : Led) (j : Nat) (m' : Fm) (news' : Led) : Prop
  | mk (r : Int) (row : List Int) (t : Tok) (vs : List Value) (ep : Nat) (h0 : outerN qa qb mc (0, row0 qa.length) j = some (r, row)) (h1 : row.length = qa.length) (h2 : IntsAre vs row) (h3 : news' = (D, listOf vs.toArray ep) :: news) (h4 : m' "a" = some (.str (S qa) ta)) (h5 : m' "b" = some (.str (S qb) tb)) (h6 : m' "max_cost" = some (.int mc tm)) (h7 : m' "row" = some (.ref D)) (h8 : m' "result" = some (.int r t)) : LJ3 qa qb mc D ta tb tm news j m' news'
inductive LJ4 (qa qb : List Nat) (c : Nat) (mc : Int) (D I : Addr) (oI : Obj) (ep' : Nat) (ta tb tm tk₃ : Tok) (news : Led) (st : LevSt) (m' : Fm) (news' : Led) : Prop
  | mk (vs : List Value) (td tr tmn : Tok) (h0 : IntsAre vs st.2.2.2) (h1 : news' = (D, listOf vs.toArray ep') :: (I, oI) :: news) (h2 : m' "a" = some (.str (S qa) ta)) (h3 : m' "b" = some (.str (S qb) tb)) (h4 : m' "max_cost" = some (.int mc tm)) (h5 : m' "row" = some (.ref D)) (h6 : m' "bchar" = some (.str (S [c]) tk₃)) (h7 : m' "distance" = some (.int st.1 td)) (h8 : m' "result" = some (.int st.2.1 tr)) (h9 : m' "minimum" = some (.int st.2.2.1 tmn)) : LJ4 qa qb c mc D I oI ep' ta tb tm tk₃ news st m' news'
section
variable {w : World} {p : Program} {loose : List Str} {mean : ExcName → Option Value} {mg mb : Fm} {dp un : Nat} {gd : Option (List Code)} {cn : Str} {cs : Scope} {a : Addr} {ccd : Value} {cl : List (Str × Addr)} {outer : List Env} {A₀ : Around} {base h₀ : Heap} {L : Addr} {m : Fm} {s : Shared} {Q E : Value → Shared → Prop} {news : Led}
theorem lev_call {x y : List Nat} {mc R : Int} {tx ty tm : Tok}
   (B : Below A₀ base outer h₀) (F : Fr h₀ L s.heap m) (X : (hd.heap_39 w.params).In h₀) (N : News h₀ L s.heap news) (T : Top p loose mean mg mb h₀) (hk : cs.kind = .function)
   (hx : (S x).length ≤ 40) (hy : (S y).length ≤ 40) (hP : levP x y mc = some R)
   (hdp : dp + 2 < recursionLimit) (hu : un + 16 < cLine)
   (hret : ∀ (t : Tok) (h' : Heap) (tk' : Nat), Fr h₀ L h' m → News h₀ L h' news → Q (.int R t) { s with heap := h', toks := tk' }) :
   wpAny (model P0 w) (ktrTop dp un gd cn cs L a ccd cl outer) (call (.ref 91) [.str (S x) tx, .str (S y) ty, .int mc tm]) Q E s := by
  refine wpAny_call ?_
  k_dflt cell_enter
  refine abs_all fun QF hQF => ?_
  (repeat' (first | (k_unfold; (try dsimp only)) | (walk1 <;> (try dsimp only)) | (dsimp only; walk1) | ((with_reducible rename Post _ _ => hP'); (with_reducible refine Post.of hP' ?_)) | ((with_reducible rename Post1 _ _ => hP'); (with_reducible refine Post1.of hP' ?_))))
  · refine cb_retI (Q := Q) hret ?_ (by assumption) (by assumption)
    rename (S x == S y) = true => e
    rw [S_beq, decide_eq_true_eq] at e
    simp only [levP, if_pos e, Option.some.injEq] at hP
    exact hP
  rename (S x == S y) = false => e
  rw [S_beq, decide_eq_false_iff_not] at e
  refine Stop.of ?_
  rename Fr _ _ _ _ => Fx
  rename News _ _ _ _ => Nx
  refine while_mid (LJ1 x y mc tx ty tm news)
    (LM1 x y mc tx ty tm news) x.length Fx Nx ?_ ?_ ?_
  · exact ⟨0, _, rfl, rfl, rfl, rfl, rfl, rfl, Nat.zero_le _, Nat.zero_le _, rfl⟩
  · rintro n m₁ news₁ h₁ tk₁ F₁ N₁ ⟨k, t, hn, hnews, ha, hb, hmc, hpre, hk1, hk2, htr⟩
    refine abs_while fun QW1 QZ1 hQW1 hQZ1 => ?_
    clear Fx Nx
    have F₂ := fr_kst [("a", .str (S x) tx), ("b", .str (S y) ty), ("max_cost", .int mc tm), ("pre", .int k t)] F₁ ⟨ha, hb, hmc, hpre, trivial⟩
    rw [hnews] at N₁
    have N₂ := N₁
    clear F₁ N₁ ha hb hmc hpre hnews
    dsimp only [kstB] at F₂
    (repeat' (first | (k_unfold; (try dsimp only)) | (walk1 <;> (try dsimp only)) | (dsimp only; walk1) | ((with_reducible rename Post _ _ => hP'); (with_reducible refine Post.of hP' ?_)) | ((with_reducible rename Post1 _ _ => hP'); (with_reducible refine Post1.of hP' ?_))))
    all_goals simp only [S_sn hk1, S_sn hk2, S_len, List.length_drop] at *
    · refine WhileStep.intro (by assumption) (by assumption) (n' := x.length - (k + 1)) (by omega) ⟨k + 1, _, rfl, rfl, rfl, rfl, rfl, rfl, by omega, by omega, ?_⟩
      rename (Txt.item (S x) _ == Txt.item (S y) _) = true => e1
      have l1 : k < x.length := by omega
      have l2 : k < y.length := by omega
      rw [S_item l1, S_item l2, S_beq, decide_eq_true_eq, List.cons.injEq] at e1
      rw [htr, trimPre_step l1 l2 e1.1]
    · refine MidAt.intro (by assumption) (by assumption) ⟨k, _, rfl, rfl, rfl, rfl, rfl, hk1, hk2, ?_⟩
      rename (Txt.item (S x) _ == Txt.item (S y) _) = false => e1
      have l1 : k < x.length := by omega
      have l2 : k < y.length := by omega
      rw [S_item l1, S_item l2, S_beq, decide_eq_false_iff_not, List.cons.injEq] at e1
      rw [htr, trimPre_stop l1 l2 (fun q => e1 ⟨q, rfl⟩)]
    · refine MidAt.intro (by assumption) (by assumption) ⟨k, _, rfl, rfl, rfl, rfl, rfl, hk1, hk2, ?_⟩
      rw [htr, trimPre_nil (.inr (List.drop_eq_nil_of_le (by omega)))]
    · refine MidAt.intro (by assumption) (by assumption) ⟨k, _, rfl, rfl, rfl, rfl, rfl, hk1, hk2, ?_⟩
      rw [htr, trimPre_nil (.inl (List.drop_eq_nil_of_le (by omega)))]
  · rintro m₁ news₁ h₁ tk₁ F₁ N₁ ⟨k, t, hnews, ha, hb, hmc, hpre, hk1, hk2, htr0⟩
    clear Fx Nx
    have F₂ := fr_kst [("a", .str (S x) tx), ("b", .str (S y) ty), ("max_cost", .int mc tm), ("pre", .int k t)] F₁ ⟨ha, hb, hmc, hpre, trivial⟩
    rw [hnews] at N₁
    have N₂ := N₁
    clear F₁ N₁ ha hb hmc hpre hnews
    dsimp only [kstB] at F₂
    (repeat' (first | (k_unfold; (try dsimp only)) | (walk1 <;> (try dsimp only)) | (dsimp only; walk1) | ((with_reducible rename Post _ _ => hP'); (with_reducible refine Post.of hP' ?_)) | ((with_reducible rename Post1 _ _ => hP'); (with_reducible refine Post1.of hP' ?_))))
    refine Stop.of ?_
    rename Fr _ _ _ _ => Fx
    rename News _ _ _ _ => Nx
    rw [S_sn hk1, S_sn hk2] at Fx
    generalize hxa : x.drop k = xa at *
    generalize hyb : y.drop k = yb at *
    have lxa : (S xa).length ≤ 40 := by rw [S_len, ← hxa, List.length_drop]; rw [S_len] at hx; omega
    have lyb : (S yb).length ≤ 40 := by rw [S_len, ← hyb, List.length_drop]; rw [S_len] at hy; omega
    refine while_mid (LJ2 xa yb mc tm news)
     (LM2 xa yb mc tm news) xa.length Fx Nx ?_ ?_ ?_
    · exact ⟨0, _, _, _, rfl, rfl, rfl, rfl, rfl, rfl, Nat.zero_le _, Nat.zero_le _, by simp⟩
    · rintro n m₁ news₁ h₁ tk₁ F₁ N₁ ⟨k, t, ta, tb, hn, hnews, ha, hb, hmc, hpre, hk1, hk2, htr⟩
      refine abs_while fun QW2 QZ2 hQW2 hQZ2 => ?_
      clear Fx Nx
      rw [hnews] at N₁
      have sa := S_len xa
      have sb := S_len yb
      cases k with
      | zero =>
        have hpre' : m₁ "post" = some (.int 0 t) := hpre
        have nt := on 0
        have F₂ := fr_kst [("a", .str (S xa) ta), ("b", .str (S yb) tb), ("max_cost", .int mc tm), ("post", .int 0 t)] F₁ ⟨ha, hb, hmc, hpre', trivial⟩
        have N₂ := N₁
        clear F₁ N₁ ha hb hmc hpre hnews hpre' htr
        dsimp only [kstB] at F₂
        have la0 : (Txt.slice (S xa) none none).length = xa.length := by rw [S_nn, S_len]
        have lb0 : (Txt.slice (S yb) none none).length = yb.length := by rw [S_nn, S_len]
        (repeat' (first | (k_unfold; (try dsimp only)) | (walk1 <;> (try dsimp only)) | (dsimp only; walk1) | ((with_reducible rename Post _ _ => hP'); (with_reducible refine Post.of hP' ?_)) | ((with_reducible rename Post1 _ _ => hP'); (with_reducible refine Post1.of hP' ?_))))
        · refine WhileStep.intro (by assumption) (by assumption) (n' := xa.length - 1) (by omega) ⟨1, _, _, _, rfl, rfl, rfl, rfl, rfl, rfl, by omega, by omega, ?_⟩
          rename (Txt.item (S xa) _ == Txt.item (S yb) _) = true => e1
          have := post_eq (k := 0) (by omega) (by omega) e1 rfl
          simpa using this
        · refine MidAt.intro (by assumption) (by assumption) ⟨0, _, _, _, rfl, rfl, rfl, rfl, rfl, hk1, hk2, ?_⟩
          rename (Txt.item (S xa) _ == Txt.item (S yb) _) = false => e1
          have := post_ne (k := 0) (by omega) (by omega) e1 rfl
          simpa using this
        · refine MidAt.intro (by assumption) (by assumption) ⟨0, _, _, _, rfl, rfl, rfl, rfl, rfl, hk1, hk2, ?_⟩
          have := trimPost_nil (x := xa) (y := yb) (k := 0) (by omega)
          simpa using this
        · refine MidAt.intro (by assumption) (by assumption) ⟨0, _, _, _, rfl, rfl, rfl, rfl, rfl, hk1, hk2, ?_⟩
          have := trimPost_nil (x := xa) (y := yb) (k := 0) (by omega)
          simpa using this
      | succ k =>
        have F₂ := fr_kst [("a", .str (S xa) ta), ("b", .str (S yb) tb), ("max_cost", .int mc tm), ("post", .int (-((k + 1 : Nat) : Int)) t)] F₁ ⟨ha, hb, hmc, hpre, trivial⟩
        have N₂ := N₁
        clear F₁ N₁ ha hb hmc hpre hnews
        dsimp only [kstB] at F₂
        have la : (Txt.slice (S xa) none (some (-((k + 1 : Nat) : Int)))).length = xa.length - (k + 1) := by rw [S_nneg (by omega) hk1, S_len, List.length_take]; omega
        have lb : (Txt.slice (S yb) none (some (-((k + 1 : Nat) : Int)))).length = yb.length - (k + 1) := by rw [S_nneg (by omega) hk2, S_len, List.length_take]; omega
        have nt := on 1
        (repeat' (first | (k_unfold; (try dsimp only)) | (walk1 <;> (try dsimp only)) | (dsimp only; walk1) | ((with_reducible rename Post _ _ => hP'); (with_reducible refine Post.of hP' ?_)) | ((with_reducible rename Post1 _ _ => hP'); (with_reducible refine Post1.of hP' ?_))))
        · refine WhileStep.intro (by assumption) (by assumption) (n' := xa.length - (k + 2)) (by omega) ⟨k + 2, _, _, _, rfl, rfl, rfl, rfl, rfl, by exact some_intL (by omega), by omega, by omega, ?_⟩
          rename (Txt.item (S xa) _ == Txt.item (S yb) _) = true => e1
          exact htr.trans (post_eq (k := k + 1) (by omega) (by omega) e1 rfl)
        · refine MidAt.intro (by assumption) (by assumption) ⟨k + 1, _, _, _, rfl, rfl, rfl, rfl, rfl, hk1, hk2, ?_⟩
          rename (Txt.item (S xa) _ == Txt.item (S yb) _) = false => e1
          exact htr.trans (post_ne (k := k + 1) (by omega) (by omega) e1 rfl)
        · refine MidAt.intro (by assumption) (by assumption) ⟨k + 1, _, _, _, rfl, rfl, rfl, rfl, rfl, hk1, hk2, ?_⟩
          exact htr.trans (trimPost_nil (by omega))
        · refine MidAt.intro (by assumption) (by assumption) ⟨k + 1, _, _, _, rfl, rfl, rfl, rfl, rfl, hk1, hk2, ?_⟩
          exact htr.trans (trimPost_nil (by omega))
    · rintro m₁ news₁ h₁ tk₁ F₁ N₁ ⟨k, t, ta, tb, hnews, ha, hb, hmc, hpre, hk1, hk2, htr⟩
      clear Fx Nx
      rw [hnews] at N₁
      have F₂ := fr_kst [("a", .str (S xa) ta), ("b", .str (S yb) tb), ("max_cost", .int mc tm), ("post", .int (-(k : Int)) t)] F₁ ⟨ha, hb, hmc, hpre, trivial⟩
      have N₂ := N₁
      clear F₁ N₁ ha hb hmc hpre hnews
      dsimp only [kstB] at F₂
      have nt := on 2
      (repeat' (first | (k_unfold; (try dsimp only)) | (walk1 <;> (try dsimp only)) | (dsimp only; walk1) | ((with_reducible rename Post _ _ => hP'); (with_reducible refine Post.of hP' ?_)) | ((with_reducible rename Post1 _ _ => hP'); (with_reducible refine Post1.of hP' ?_))))
      refine Stop.of ?_
      rename Fr _ _ _ _ => Fx
      rename News _ _ _ _ => Nx
      generalize hqa : xa.take (xa.length - k) = qa at *
      generalize hqb : yb.take (yb.length - k) = qb at *
      have sa := S_len xa
      have sb := S_len yb
      rename On 2 => nt2
      refine exec_mid (LE1 qa yb mc tm t tb k news) Fx Nx ?_ ?_
      · clear nt2
        refine abs_all fun QM hQM => ?_
        cases k with
        | zero =>
          have nt := on 0
          have F₃ := fr_kst [("a", .str (S xa) ta), ("b", .str (S yb) tb), ("max_cost", .int mc tm), ("post", .int 0 t)] Fx ⟨rfl, rfl, rfl, rfl, trivial⟩
          have N₃ := Nx
          clear Fx Nx
          dsimp only [kstB] at F₃
          (repeat' (first | (k_unfold; (try dsimp only)) | (walk1 <;> (try dsimp only)) | (dsimp only; walk1) | ((with_reducible rename Post _ _ => hP'); (with_reducible refine Post.of hP' ?_)) | ((with_reducible rename Post1 _ _ => hP'); (with_reducible refine Post1.of hP' ?_))))
          refine NextMid.mk (by assumption) (by assumption) ?_
          exact ⟨_, rfl, some_str (by rw [S_nn, ← hqa]; simp), rfl, rfl, rfl⟩
        | succ k =>
          have nt := on 1
          (repeat' (first | (k_unfold; (try dsimp only)) | (walk1 <;> (try dsimp only)) | (dsimp only; walk1) | ((with_reducible rename Post _ _ => hP'); (with_reducible refine Post.of hP' ?_)) | ((with_reducible rename Post1 _ _ => hP'); (with_reducible refine Post1.of hP' ?_))))
          refine NextMid.mk (by assumption) (by assumption) ?_
          exact ⟨_, rfl, some_str (by rw [← hqa, ← S_nneg (by omega) hk1]), rfl, rfl, rfl⟩
      · rintro m₁ news₁ h₁ tk₁ F₁ N₁ ⟨ta, hnews, ha, hb, hmc, hpre⟩
        clear Fx Nx
        rw [hnews] at N₁
        have F₂ := fr_kst [("a", .str (S qa) ta), ("b", .str (S yb) tb), ("max_cost", .int mc tm), ("post", .int (-(k : Int)) t)] F₁ ⟨ha, hb, hmc, hpre, trivial⟩
        have N₂ := N₁
        clear F₁ N₁ ha hb hmc hpre hnews
        dsimp only [kstB] at F₂
        (repeat' (first | (k_unfold; (try dsimp only)) | (walk1 <;> (try dsimp only)) | (dsimp only; walk1) | ((with_reducible rename Post _ _ => hP'); (with_reducible refine Post.of hP' ?_)) | ((with_reducible rename Post1 _ _ => hP'); (with_reducible refine Post1.of hP' ?_))))
        refine Stop.of ?_
        rename Fr _ _ _ _ => Fx
        rename News _ _ _ _ => Nx
        rename On 2 => nt2
        refine exec_mid (LE2 qa qb mc tm ta news) Fx Nx ?_ ?_
        · clear nt2
          refine abs_all fun QM hQM => ?_
          cases k with
          | zero =>
            have nt := on 0
            have F₃ := fr_kst [("a", .str (S qa) ta), ("b", .str (S yb) tb), ("max_cost", .int mc tm), ("post", .int 0 t)] Fx ⟨rfl, rfl, rfl, rfl, trivial⟩
            have N₃ := Nx
            clear Fx Nx
            dsimp only [kstB] at F₃
            (repeat' (first | (k_unfold; (try dsimp only)) | (walk1 <;> (try dsimp only)) | (dsimp only; walk1) | ((with_reducible rename Post _ _ => hP'); (with_reducible refine Post.of hP' ?_)) | ((with_reducible rename Post1 _ _ => hP'); (with_reducible refine Post1.of hP' ?_))))
            refine NextMid.mk (by assumption) (by assumption) ?_
            exact ⟨_, rfl, rfl, some_str (by rw [S_nn, ← hqb]; simp), rfl⟩
          | succ k =>
            have nt := on 1
            (repeat' (first | (k_unfold; (try dsimp only)) | (walk1 <;> (try dsimp only)) | (dsimp only; walk1) | ((with_reducible rename Post _ _ => hP'); (with_reducible refine Post.of hP' ?_)) | ((with_reducible rename Post1 _ _ => hP'); (with_reducible refine Post1.of hP' ?_))))
            refine NextMid.mk (by assumption) (by assumption) ?_
            exact ⟨_, rfl, rfl, some_str (by rw [← hqb, ← S_nneg (by omega) hk2]), rfl⟩
        · rintro m₁ news₁ h₁ tk₁ F₁ N₁ ⟨tb, hnews, ha, hb, hmc⟩
          clear Fx Nx nt2
          rw [hnews] at N₁
          have F₂ := fr_kst [("a", .str (S qa) ta), ("b", .str (S qb) tb), ("max_cost", .int mc tm)] F₁ ⟨ha, hb, hmc, trivial⟩
          have N₂ := N₁
          clear F₁ N₁ ha hb hmc hnews
          dsimp only [kstB] at F₂
          have lqa : (S qa).length ≤ 40 := by rw [S_len, ← hqa, List.length_take]; omega
          have lqb : (S qb).length ≤ 40 := by rw [S_len, ← hqb, List.length_take]; omega
          have sqa := S_len qa
          have sqb := S_len qb
          clear sa sb
          rcases levP_ne e htr0 htr hP with ⟨hz, hR⟩ | ⟨hz1, hz2, hl, hmc0, rw, ho⟩
          · have hz' : qa.length = 0 ∨ qb.length = 0 := by rcases hz with rfl | rfl <;> simp
            (repeat' (first | (k_unfold; (try dsimp only)) | (walk1 <;> (try dsimp only)) | (dsimp only; walk1) | ((with_reducible rename Post _ _ => hP'); (with_reducible refine Post.of hP' ?_)) | ((with_reducible rename Post1 _ _ => hP'); (with_reducible refine Post1.of hP' ?_))))
            all_goals first
              | (exfalso; omega)
              | (refine cb_retI (Q := Q) hret ?_ (by assumption) (by assumption); rw [hR, sqa, sqb])
          · have hz1' : qa.length ≠ 0 := fun q => hz1 (List.length_eq_zero_iff.mp q)
            have hz2' : qb.length ≠ 0 := fun q => hz2 (List.length_eq_zero_iff.mp q)
            (repeat' (first | (k_unfold; (try dsimp only)) | (walk1 <;> (try dsimp only)) | (dsimp only; walk1) | ((with_reducible rename Post _ _ => hP'); (with_reducible refine Post.of hP' ?_)) | ((with_reducible rename Post1 _ _ => hP'); (with_reducible refine Post1.of hP' ?_))))
            all_goals try (exfalso; omega)
            refine Stop.of ?_
            rename Fr _ _ _ _ => Fx
            rename News _ _ _ _ => Nx
            rename IsRange _ _ _ _ _ _ _ _ => rg
            rw [sqa] at rg
            refine list_rangeC qa.length rfl Fx Nx rg (range2_small _ (by omega)) (range2_size _) (by omega) ?_
            intro D us ep h₂ tk₂ F₃ N₃ lD hI
            clear Fx Nx rg
            (repeat' (first | (k_unfold; (try dsimp only)) | (walk1 <;> (try dsimp only)) | (dsimp only; walk1) | ((with_reducible rename Post _ _ => hP'); (with_reducible refine Post.of hP' ?_)) | ((with_reducible rename Post1 _ _ => hP'); (with_reducible refine Post1.of hP' ?_))))
            refine Stop.of ?_
            rename Fr _ _ _ _ => Fx
            rename News _ _ _ _ => Nx
            refine For_invVF Fx rfl rfl ?_
            (repeat' (first | (k_unfold; (try dsimp only)) | (walk1 <;> (try dsimp only)) | (dsimp only; walk1) | ((with_reducible rename Post _ _ => hP'); (with_reducible refine Post.of hP' ?_)) | ((with_reducible rename Post1 _ _ => hP'); (with_reducible refine Post1.of hP' ?_))))
            refine Stop.of ?_
            rename Fr _ _ _ _ => Fx
            rename News _ _ _ _ => Nx
            rename IsRange _ _ _ _ _ _ _ _ => rg
            k_sweep
            have hDn : ∀ p ∈ news, p.1 ≠ D := fun p hp q => Nat.lt_irrefl _ (q ▸ lD p hp)
            refine loop_range qb.length (LJ3 qa qb mc D ta tb tm news)
              rfl rg (small_one (by decide) (by decide) (by omega) (by omega)) (by rw [rangeSize_nat]; omega) Fx Nx ?_ ?_ ?_
            · exact ⟨0, row0 qa.length, _, us, ep, rfl, by simp [row0], hI, rfl, rfl, rfl, rfl, rfl, rfl⟩
            · rintro j t₁ m₂ news₂ I oI h₃ tk₃ hj ⟨r, row, tr, vs, ep', hoj, hrl, hIv, hnews, ha, hb, hmc, hrow, hres⟩ hnI F₁ N₁
              refine abs_all fun QT3 hQT3 => ?_
              clear Fx Nx rg
              rw [Int.zero_add] at F₁
              subst hnews
              have F₂ := fr_kstx [("a", .str (S qa) ta), ("b", .str (S qb) tb), ("max_cost", .int mc tm), ("row", .ref D), ("result", .int r tr)] F₁ ⟨ha, hb, hmc, hrow, hres, trivial⟩
              have N₂ := N₁
              clear F₁ N₁ ha hb hmc hrow hres
              dsimp only [kstB] at F₂
              have hID : D ≠ I := hnI _ (List.Mem.head _)
              (repeat' (first | (k_unfold; (try dsimp only)) | (walk1 <;> (try dsimp only)) | (dsimp only; walk1) | ((with_reducible rename Post _ _ => hP'); (with_reducible refine Post.of hP' ?_)) | ((with_reducible rename Post1 _ _ => hP'); (with_reducible refine Post1.of hP' ?_))))
              refine Stop.of ?_
              rename Fr _ _ _ _ => Fx
              rename News _ _ _ _ => Nx
              k_sweep
              clear F₂ N₂
              refine For_invVF Fx rfl rfl ?_
              (repeat' (first | (k_unfold; (try dsimp only)) | (walk1 <;> (try dsimp only)) | (dsimp only; walk1) | ((with_reducible rename Post _ _ => hP'); (with_reducible refine Post.of hP' ?_)) | ((with_reducible rename Post1 _ _ => hP'); (with_reducible refine Post1.of hP' ?_))))
              refine Stop.of ?_
              rename Fr _ _ _ _ => Fx
              rename News _ _ _ _ => Nx
              rename IsRange _ _ _ _ _ _ _ _ => rg
              k_sweep
              have Ny := news_sub (b := (D, listOf vs.toArray ep') :: (I, oI) :: news) Nx (by intro p hp; rcases List.mem_cons.mp hp with rfl | hp; exact .tail _ (.head _); rcases List.mem_cons.mp hp with rfl | hp; exact .head _; exact .tail _ (.tail _ hp))
              have hDn' : ∀ p ∈ (I, oI) :: news, p.1 ≠ D := by intro p hp; rcases List.mem_cons.mp hp with rfl | hp; exact fun q => hID q.symm; exact hDn p hp
              generalize hst0 : (((j : Int) * 2, (j : Int) * 2, 9223372036854775807, row) : LevSt) = st0 at *
              rw [S_item hj] at Fx
              refine loop_range qa.length (fun i => LJ4 qa qb qb[j] mc D I oI ep' ta tb tm tk₃ news (innerN qb[j] qa st0 i))
                rfl rg (small_one (by decide) (by decide) (by omega) (by omega)) (by rw [rangeSize_nat]; omega) Fx Ny ?_ ?_ ?_
              · subst hst0
                exact ⟨vs, _, _, _, hIv, rfl, rfl, rfl, rfl, rfl, rfl, rfl, rfl, rfl⟩
              · rintro i t₂ m₃ news₃ I2 oI2 h₄ tk₄ hi ⟨vs₂, td, tr₂, tmn, hIv₂, hnews, ha, hb, hmc, hrow, hbc, hdi, hres, hmin⟩ hnI2 F₁ N₁
                refine abs_all fun QT4 hQT4 => ?_
                clear Fx Nx Ny rg
                rw [Int.zero_add] at F₁
                subst hnews
                have hlen2 : (innerN qb[j] qa st0 i).2.2.2.length = qa.length := by rw [innerN_len, ← hst0]; exact hrl
                generalize hst : innerN qb[j] qa st0 i = st at *
                have F₂ := fr_kstx [("a", .str (S qa) ta), ("b", .str (S qb) tb), ("max_cost", .int mc tm), ("row", .ref D), ("bchar", .str (S [qb[j]]) tk₃), ("distance", .int st.1 td), ("result", .int st.2.1 tr₂), ("minimum", .int st.2.2.1 tmn)] F₁ ⟨ha, hb, hmc, hrow, hbc, hdi, hres, hmin, trivial⟩
                have N₂ := N₁
                clear F₁ N₁ ha hb hmc hrow hbc hdi hres hmin
                dsimp only [kstB] at F₂
                have hID2 : D ≠ I2 := hnI2 _ (List.Mem.head _)
                have hii : (i : Int) < (qa.length : Int) := by omega
                have hb1 : (S [qb[j]]).length ≤ 1 := by rw [S_len]; exact Nat.le_refl _
                (repeat' (first | (k_unfold; (try dsimp only)) | (walk1 <;> (try dsimp only)) | (dsimp only; walk1) | ((with_reducible rename Post _ _ => hP'); (with_reducible refine Post.of hP' ?_)) | ((with_reducible rename Post1 _ _ => hP'); (with_reducible refine Post1.of hP' ?_))))
                refine Stop.of ?_
                (k_here; k_dflt (refine' subst_cost ?k1 ?k2 ?k3 ?k4 ?k5 ?k6 ?k7 ?k8 ?k9 ?k10 ?_; (case k1 => k_asm); (case k2 => k_asm); (case k3 => k_asm); (case k4 => k_asm); (case k5 => k_asm); (case k6 => exact rfl); (case k7 => omega); (case k8 => omega); (case k9 => ktr_room); (case k10 => ktr_units); intro _ _ _ _ _; (try k_sweep)))
                (repeat' (first | (k_unfold; (try dsimp only)) | (walk1 <;> (try dsimp only)) | (dsimp only; walk1) | ((with_reducible rename Post _ _ => hP'); (with_reducible refine Post.of hP' ?_)) | ((with_reducible rename Post1 _ _ => hP'); (with_reducible refine Post1.of hP' ?_))))
                refine Stop.of ?_
                rename Fr _ _ _ _ => Fx
                rename News _ _ _ _ => Nx
                k_sweep
                rw [S_item hi] at *
                have hres : (if st.1 + substCost (S [qb[j]]) (S [qa[i]]) < (if st.2.2.2.getD (i : Int).toNat 0 < st.2.1 then st.2.2.2.getD (i : Int).toNat 0 else st.2.1) + 2 then st.1 + substCost (S [qb[j]]) (S [qa[i]]) else (if st.2.2.2.getD (i : Int).toNat 0 < st.2.1 then st.2.2.2.getD (i : Int).toNat 0 else st.2.1) + 2) = innerR qb[j] qa i st := by
                  simp [innerR, substC, hi]
                rw [hres] at Fx ⊢
                have hst' : innerF qb[j] qa i st = innerN qb[j] qa st0 (i + 1) := by rw [innerN, hst]
                refine ksa_set Fx Nx (Upd.tail (fun q => hID2 q.symm) (Upd.head hDn')) hIv₂ (by omega) (by omega) (by omega) ?_
                intro h₅ F₃ N₃ hI₃ _ _
                clear Fx Nx
                have hd' : st.2.2.2.getD (i : Int).toNat 0 = (innerF qb[j] qa i st).1 := by simp [innerF]
                have hr' : innerR qb[j] qa i st = (innerF qb[j] qa i st).2.1 := by simp [innerF]
                have hI₄ : IntsAre (vs₂.set (i : Int).toNat _) (innerF qb[j] qa i st).2.2.2 := hI₃
                rw [Int.toNat_natCast] at *
                (repeat' (first | (k_unfold; (try dsimp only)) | (walk1 <;> (try dsimp only)) | (dsimp only; walk1) | ((with_reducible rename Post _ _ => hP'); (with_reducible refine Post.of hP' ?_)) | ((with_reducible rename Post1 _ _ => hP'); (with_reducible refine Post1.of hP' ?_))))
                · refine TurnEnd.next _ (by assumption) (by assumption) (by intro p hp; rcases List.mem_cons.mp hp with rfl | hp; exact hID2; exact hnI2 _ (.tail _ hp)) (fun _ h => nomatch h) ?_
                  rename innerR _ _ _ _ < _ => hlt
                  rw [← hst']
                  exact ⟨_, _, _, _, hI₄, rfl, rfl, rfl, rfl, rfl, rfl, rfl, rfl, some_intL (by simp [innerF, hlt])⟩
                · refine TurnEnd.next _ (by assumption) (by assumption) (by intro p hp; rcases List.mem_cons.mp hp with rfl | hp; exact hID2; exact hnI2 _ (.tail _ hp)) (fun _ h => nomatch h) ?_
                  rename ¬ innerR _ _ _ _ < _ => hlt
                  rw [← hst']
                  exact ⟨_, _, _, _, hI₄, rfl, rfl, rfl, rfl, rfl, rfl, rfl, rfl, some_intL (by simp [innerF, hlt])⟩
              · rintro m₃ news₃ h₄ tk₄ ⟨vs₂, td, tr₂, tmn, hIv₂, hnews, ha, hb, hmc, hrow, hbc, hdi, hres, hmin⟩ F₁ N₁
                clear Fx Nx Ny rg
                subst hnews
                obtain ⟨⟨r', row'⟩, hoj'⟩ := outerN_mono ho (j + 1) (by omega)
                obtain ⟨hnm, hr', hrow'⟩ := outer_step hj hoj hoj'
                rw [hst0] at hnm hr' hrow'
                have hlen2 : (innerN qb[j] qa st0 qa.length).2.2.2.length = qa.length := by rw [innerN_len, ← hst0]; exact hrl
                generalize hst : innerN qb[j] qa st0 qa.length = st at *
                have F₂ := fr_kst [("a", .str (S qa) ta), ("b", .str (S qb) tb), ("max_cost", .int mc tm), ("row", .ref D), ("result", .int st.2.1 tr₂), ("minimum", .int st.2.2.1 tmn)] F₁ ⟨ha, hb, hmc, hrow, hres, hmin, trivial⟩
                have N₂ := N₁
                clear F₁ N₁ ha hb hmc hrow hbc hdi hres hmin
                dsimp only [kstB] at F₂
                (repeat' (first | (k_unfold; (try dsimp only)) | (walk1 <;> (try dsimp only)) | (dsimp only; walk1) | ((with_reducible rename Post _ _ => hP'); (with_reducible refine Post.of hP' ?_)) | ((with_reducible rename Post1 _ _ => hP'); (with_reducible refine Post1.of hP' ?_))))
                refine TurnEnd.next ((D, listOf vs₂.toArray ep') :: news) (by assumption) (news_sub (by assumption) ?_) ?_ (fun _ h => nomatch h) ?_
                · intro p hp
                  rcases List.mem_cons.mp hp with rfl | hp
                  · exact .tail _ (.head _)
                  · rcases List.mem_cons.mp hp with rfl | hp
                    · exact .head _
                    · exact .tail _ (.tail _ hp)
                · intro p hp
                  rcases List.mem_cons.mp hp with rfl | hp
                  · exact hID
                  · exact hnI p (.tail _ hp)
                · subst hr' hrow'
                  exact ⟨_, _, _, vs₂, ep', hoj', hlen2, hIv₂, rfl, rfl, rfl, rfl, rfl, rfl⟩
            · rintro m₂ news₂ h₃ tk₃ ⟨r, row, tr, vs, ep', hoj, hrl, hIv, hnews, ha, hb, hmc, hrow, hres⟩ F₁ N₁
              clear Fx Nx rg
              subst hnews
              rw [ho] at hoj
              cases hoj
              have F₂ := fr_kst [("result", .int R tr)] F₁ ⟨hres, trivial⟩
              have N₂ := N₁
              clear F₁ N₁ ha hb hmc hrow hres
              dsimp only [kstB] at F₂
              (repeat' (first | (k_unfold; (try dsimp only)) | (walk1 <;> (try dsimp only)) | (dsimp only; walk1) | ((with_reducible rename Post _ _ => hP'); (with_reducible refine Post.of hP' ?_)) | ((with_reducible rename Post1 _ _ => hP'); (with_reducible refine Post1.of hP' ?_))))
              refine cb_retI (Q := Q) hret rfl (by assumption) (news_sub (by assumption) fun p hp => .tail _ hp)
end
end Mine

set_option maxHeartbeats 2000000
namespace Mine
theorem fill5 : PySem.Challenge.rw_re0095_01 = PySem.Challenge.rw_re0095_01 ∧ hd.heap_39 = hd.heap_39 := by
  k_fill
  exact ⟨rfl, rfl⟩
noncomputable abbrev pairOf (x y : Value) : Obj := { cls := .type "tuple", data := .seq #[x, y] }
local macro_rules | `(tactic| walk_at "call builtin:divmod") => `(tactic| refine Stop.mk ?_)
section
variable {w : World} {p : Program} {loose : List Str} {mean : ExcName → Option Value} {mg mb : Fm} {dp un : Nat} {gd : Option (List Code)} {cn : Str} {cs : Scope} {a : Addr} {ccd : Value} {cl : List (Str × Addr)} {outer : List Env} {A₀ : Around} {base h₀ : Heap} {L : Addr} {m : Fm} {s : Shared} {Q E : Value → Shared → Prop} {news : Led}
theorem div2n1n {x b n : Int} {tx tb tn : Tok}
   (B : Below A₀ base outer h₀) (F : Fr h₀ L s.heap m) (X : (hd.heap_39 w.params).In h₀) (N : News h₀ L s.heap news) (T : Top p loose mean mg mb h₀) (hk : cs.kind = .function)
   (hbits : (Builtin.Int.intBits x : Int) - n ≤ 4000) (hb : 0 < b) (hb' : b < 1073741824) (hdp : dp + 1 < recursionLimit) (hu : un + 8 < cLine)
   (hret : ∀ (r : Addr) (t1 t2 : Tok) (h' : Heap) (tk' : Nat), Fr h₀ L h' m → News h₀ L h' ((r, pairOf (.int (x.fdiv b) t1) (.int (x.fmod b) t2)) :: news) → (∀ p ∈ news, p.1 < r) → Q (.ref r) { s with heap := h', toks := tk' }) :
   wpAny (model P0 w) (ktrTop dp un gd cn cs L a ccd cl outer) (call (.ref 21) [.int x tx, .int b tb, .int n tn]) Q E s := by
  refine wpAny_call ?_
  k_dflt cell_enter
  refine abs_all fun QF hQF => ?_
  (repeat' (first | (k_unfold; (try dsimp only)) | (walk1 <;> (try dsimp only)) | (dsimp only; walk1) | ((with_reducible rename Post _ _ => hP'); (with_reducible refine Post.of hP' ?_))))
  refine Stop.of ?_
  rename Fr _ _ _ _ => Fx
  rename News _ _ _ _ => Nx
  refine divmod_N Fx Nx (by omega) ?_ (Or.inl (PyProof.noPylong_small (by omega)))
  intro h' F' N'
  have lt : ∀ p ∈ news, p.1 < _ := fun p hp => Heap.lt_size (Nx p hp).1
  clear Fx Nx
  (repeat' (first | (k_unfold; (try dsimp only)) | (walk1 <;> (try dsimp only)) | (dsimp only; walk1) | ((with_reducible rename Post _ _ => hP'); (with_reducible refine Post.of hP' ?_))))
  exact hret _ _ _ _ _ (by assumption) (by assumption) lt
end
end Mine

namespace Mine
/-- the value of digits, the least first -/
noncomputable def valD (n : Nat) : List Int → Int
  | [] => 0
  | d :: ds => d + 2 ^ n * valD n ds
theorem valD_append (n : Nat) (b a : List Int) : valD n (a ++ b) = valD n a + 2 ^ (n * a.length) * valD n b := by
  induction a with
  | nil => simp [valD]
  | cons d a ih =>
    rw [List.cons_append, valD, ih, valD, List.length_cons, Nat.mul_succ, Nat.add_comm (n * a.length) n, Int.pow_add]
    rw [Int.mul_add, Int.mul_assoc, Int.add_assoc]
theorem and_low (x s : Nat) : x &&& (x / 2 ^ s * 2 ^ s) = x / 2 ^ s * 2 ^ s := by
  apply Nat.eq_of_testBit_eq
  intro i
  rw [Nat.testBit_and, Nat.testBit_mul_two_pow, Nat.testBit_div_two_pow]
  by_cases h : s ≤ i
  · have e : s + (i - s) = i := by omega
    simp [h]
  · simp [h]
theorem xor_low {x : Int} (s : Nat) (hx : 0 ≤ x) : Builtin.bitXor x (x.fdiv (2 ^ s) * 2 ^ s) = x % 2 ^ s := by
  obtain ⟨X, rfl⟩ := Int.eq_ofNat_of_zero_le hx
  have e1 : ((X : Int).fdiv (2 ^ s)) = ((X / 2 ^ s : Nat) : Int) := by
    rw [Int.fdiv_eq_ediv_of_nonneg _ (by exact Int.le_of_lt (Int.pow_pos (by decide)))]
    simp
  rw [bitXor_and, e1]
  have e2 : ((X / 2 ^ s : Nat) : Int) * 2 ^ s = ((X / 2 ^ s * 2 ^ s : Nat) : Int) := by simp
  rw [e2]
  have e3 : Builtin.bitAnd (X : Int) ((X / 2 ^ s * 2 ^ s : Nat) : Int) = ((X / 2 ^ s * 2 ^ s : Nat) : Int) := by
    have h1 : decide (0 ≤ (X : Int)) = true := by simp
    have h2 : decide (0 ≤ ((X / 2 ^ s * 2 ^ s : Nat) : Int)) = true := decide_eq_true (Int.natCast_nonneg _)
    unfold Builtin.bitAnd
    rw [h1, h2]
    show (((X : Int).toNat &&& ((X / 2 ^ s * 2 ^ s : Nat) : Int).toNat : Nat) : Int) = _
    rw [Int.toNat_natCast, Int.toNat_natCast, and_low]
  rw [e3]
  have e4 := Nat.div_add_mod X (2 ^ s)
  have e5 : ((X : Int) % 2 ^ s) = ((X % 2 ^ s : Nat) : Int) := by simp
  rw [e5]
  have e6 : X / 2 ^ s * 2 ^ s = 2 ^ s * (X / 2 ^ s) := Nat.mul_comm _ _
  omega
theorem bits_lt {x : Int} {k : Nat} (h0 : 0 ≤ x) (h : x < 2 ^ k) : Builtin.Int.intBits x ≤ k := by
  unfold Builtin.Int.intBits
  split
  · exact Nat.zero_le _
  · rename_i hz
    have hz' : x ≠ 0 := by simpa using hz
    have h1 : x.natAbs < 2 ^ k := by
      have : ((x.natAbs : Nat) : Int) < ((2 ^ k : Nat) : Int) := by
        rw [Int.natAbs_of_nonneg h0]; simpa using h
      exact Int.ofNat_lt.mp this
    exact (Nat.log2_lt (by omega)).mpr h1
theorem lt_bits {x : Int} (h0 : 0 ≤ x) : x < 2 ^ (Builtin.Int.intBits x) := by
  unfold Builtin.Int.intBits
  split
  · rename_i hz
    have hz' : x = 0 := by simpa using hz
    subst hz'; decide
  · rename_i hz
    have hz' : x ≠ 0 := by simpa using hz
    have : x.natAbs < 2 ^ (x.natAbs.log2 + 1) := Nat.lt_log2_self
    have h2 : ((x.natAbs : Nat) : Int) < ((2 ^ (x.natAbs.log2 + 1) : Nat) : Int) := Int.ofNat_lt.mpr this
    rw [Int.natAbs_of_nonneg h0] at h2
    simpa using h2
end Mine

section
open Mine
local macro_rules | `(tactic| k_all) => `(tactic| first | assumption | exact allNe_of (by assumption) (by omega))
local macro_rules | `(tactic| k_mem) => `(tactic| first | assumption | exact List.Mem.tail _ (by assumption))
set_option maxHeartbeats 2000000
namespace Mine
theorem fill7 : PySem.Challenge.rw_re0095_01 = PySem.Challenge.rw_re0095_01 ∧ hd.heap_39 = hd.heap_39 := by
  k_fill
  exact ⟨rfl, rfl⟩
/-- what a nested def with three cells finds in the ledger -/
structure InLed (newsX : Led) (f : Addr) (fo : Obj) (ca ci cnn c' ad : Addr) (n : Nat) (qual : Str) : Prop where
  hf : (f, fo) ∈ newsX
  ha : ∃ oa, (ca, oa) ∈ newsX ∧ oa.data = .cell (some (.ref ad))
  hi : ∃ oi, (ci, oi) ∈ newsX ∧ oi.data = .cell (some (.ref f))
  hn : ∃ on tn, (cnn, on) ∈ newsX ∧ on.data = .cell (some (.int (n : Int) tn))
  hc : ∃ oc vs t, (c', oc) ∈ newsX ∧ oc.data = .fields vs ∧ vs[1]? = some (.str qual t)
  ne : ∀ p ∈ newsX, p.1 ≠ ad
noncomputable def nestParts (K : Frag) (f : Addr) : Option (Arguments × List Stmt × Scope) := match K.lookup f with
  | some ⟨_, _, .func fd, _⟩ => (match fd.body with
    | .stmts b => b.findSome? fun st => (match st with
      | .FunctionDef _ params body _ _ _ scope _ _ _ => some (params, body, scope)
      | _ => none)
    | _ => none)
  | _ => none
theorem nest_inj {o : Option (Arguments × List Stmt × Scope)} {a a' : Arguments} {b b' : List Stmt} {c c' : Scope} (h : o = some (a, b, c)) (h' : o = some (a', b', c')) : a = a' ∧ b = b' ∧ c = c' := by
  rw [h] at h'
  cases h'
  exact ⟨rfl, rfl, rfl⟩
structure XB (x : Int) (n k : Nat) : Prop where
  h0 : 0 ≤ x
  hk : x < 2 ^ (n * k)
  h62 : x < 2 ^ 62
noncomputable abbrev InnerSpec (w : World) (p : Program) (loose : List Str) (mean : ExcName → Option Value) (mg mb : Fm) (f : Addr) (fo : Obj) (ca ci cnn c' ad : Addr) (n : Nat) (qual : Str) (k : Nat) : Prop :=
  ∀ (dp un : Nat) (gd : Option (List Code)) (cn : Str) (cs : Scope) (a : Addr) (ccd : Value) (cl : List (Str × Addr)) (outer : List Env) (A₀ : Around) (base h₀ : Heap) (L : Addr) (m : Fm) (s : Shared) (Q E : Value → Shared → Prop) (newsX : Led) (vs : List Value) (ns : List Int) (e : Nat) (x : Int) (lo : Nat) (tx tl th : Tok),
    Below A₀ base outer h₀ → Fr h₀ L s.heap m → (hd.heap_39 w.params).In h₀ → News h₀ L s.heap ((ad, listOf vs.toArray e) :: newsX) → Top p loose mean mg mb h₀ → cs.kind = .function → CodeHd base 34 30 →
    InLed newsX f fo ca ci cnn c' ad n qual → IntsAre vs ns → 1 ≤ k → lo + k ≤ ns.length → ns.length ≤ 64 → n ≤ 64 → XB x n k → dp + k < recursionLimit → un + 8 * k < cLine →
    (∀ ds vs' h' tk', ds.length = k → (∀ d ∈ ds, 0 ≤ d ∧ d < 2 ^ n) → valD n ds = x → IntsAre vs' (ns.take lo ++ ds ++ ns.drop (lo + k)) → Fr h₀ L h' m → News h₀ L h' ((ad, listOf vs'.toArray e) :: newsX) → Q .none { s with heap := h', toks := tk' }) →
    wpAny (model P0 w) (ktrTop dp un gd cn cs L a ccd cl outer) (call (.ref f) [.int x tx, .int (lo : Int) tl, .int ((lo + k : Nat) : Int) th]) Q E s
local macro_rules | `(tactic| walk_at $s:str) => do if ["call ref", "setItem ref int", "binaryOp LShift int int", "binaryOp Mult int int"].contains s.getString then `(tactic| refine Stop.mk ?_) else Lean.Macro.throwUnsupported
local macro_rules | `(tactic| walk_at "exec Assign cons BinOp") => `(tactic| ((with_reducible rename On 3 => nt'); refine Stop.mk ?_))
theorem some_int {a b : Int} {t : Tok} (h : a = b) : some (Value.int a t) = some (Value.int b t) := by rw [h]
theorem fr_kstO {h₀ h : Heap} {L : Addr} {m : Fm} (ps : List (Str × Value)) (F : Fr h₀ L h m) (h1 : AllK m ps) : ∃ u, Fr h₀ L h (kstB u ps) := ⟨m, fr_kst ps F h1⟩
theorem splice {ns ds1 ds2 : List Int} {lo k1 k2 : Nat} (h1 : ds1.length = k1) (h : lo + k1 + k2 ≤ ns.length) :
    (ns.take lo ++ ds1 ++ ns.drop (lo + k1)).take (lo + k1) ++ ds2 ++ (ns.take lo ++ ds1 ++ ns.drop (lo + k1)).drop (lo + k1 + k2) = ns.take lo ++ (ds1 ++ ds2) ++ ns.drop (lo + k1 + k2) := by
  have hl : (ns.take lo ++ ds1).length = lo + k1 := by rw [List.length_append, List.length_take]; omega
  rw [List.take_left' hl, List.drop_append, List.drop_eq_nil_of_le (by omega), List.nil_append, List.drop_drop, hl]
  have e : lo + k1 + (lo + k1 + k2 - (lo + k1)) = lo + k1 + k2 := by omega
  rw [e]
  simp
theorem mid_eq (lo k : Nat) : ((lo : Int) + ((lo + k : Nat) : Int)).fdiv (2 ^ (1 : Int).toNat) = ((lo + k / 2 : Nat) : Int) := by
  have e : (2 : Int) ^ (1 : Int).toNat = 2 := by decide
  rw [e, Int.fdiv_eq_ediv_of_nonneg _ (by decide)]
  omega
theorem shift_eq (lo k1 n : Nat) : (((lo + k1 : Nat) : Int) - (lo : Int)) * (n : Int) = ((n * k1 : Nat) : Int) := by
  have e : ((lo + k1 : Nat) : Int) - (lo : Int) = (k1 : Int) := by omega
  rw [e, Nat.mul_comm]; simp
theorem pow_pos' (s : Nat) : (0 : Int) < 2 ^ s := Int.pow_pos (by decide)
theorem up_bounds {x : Int} {n k k1 k2 : Nat} (h : XB x n k) (hk : k = k1 + k2) : XB (x.fdiv (2 ^ (n * k1))) n k2 := by
  have hp := pow_pos' (n * k1)
  have e : x.fdiv (2 ^ (n * k1)) = x / 2 ^ (n * k1) := Int.fdiv_eq_ediv_of_nonneg _ (Int.le_of_lt hp)
  rw [e]
  refine ⟨Int.ediv_nonneg h.h0 (Int.le_of_lt hp), ?_, ?_⟩
  · refine Int.ediv_lt_of_lt_mul hp ?_
    have h2 := h.hk
    rw [hk, Nat.mul_add, Int.pow_add, Int.mul_comm] at h2
    exact h2
  · refine Int.lt_of_le_of_lt (Int.ediv_le_self _ h.h0) h.h62
theorem low_bounds {x : Int} {n k k1 : Nat} (h : XB x n k) : XB (x % 2 ^ (n * k1)) n k1 := by
  have hp := pow_pos' (n * k1)
  refine ⟨Int.emod_nonneg _ (Int.ne_of_gt hp), Int.emod_lt_of_pos _ hp, ?_⟩
  refine Int.lt_of_le_of_lt ?_ h.h62
  have e1 := Int.mul_ediv_add_emod x (2 ^ (n * k1))
  have e2 : 0 ≤ (2 : Int) ^ (n * k1) * (x / 2 ^ (n * k1)) := Int.mul_nonneg (Int.le_of_lt hp) (Int.ediv_nonneg h.h0 (Int.le_of_lt hp))
  generalize (2 : Int) ^ (n * k1) * (x / 2 ^ (n * k1)) = z at *
  omega
theorem abs_bounds {x : Int} {n k : Nat} (h : XB x n k) : x.natAbs < 2 ^ 64 := by
  have h0 := h.h0
  have h1 := h.h62
  have e : (2 : Int) ^ 62 = 4611686018427387904 := by decide
  rw [e] at h1
  have e2 : 2 ^ 64 = 18446744073709551616 := by decide
  rw [e2]
  omega
theorem inner_step {w : World} {p : Program} {loose : List Str} {mean : ExcName → Option Value} {mg mb : Fm} {f : Addr} {fo : Obj} {ca ci cnn c' ad : Addr} {n : Nat} {qual : Str} {params : Arguments} {body : List Stmt} {scope : Scope} {doc pm ct : Value}
    (hp : nestParts (hd.heap_39 w.params) 35 = some (params, body, scope)) (hfo : fo = fnMade "inner" qual params body scope [("n", cnn), ("inner", ci), ("a_digits", ca)] doc pm c' ct)
    (k : Nat) (ih : ∀ k', k' < k → InnerSpec w p loose mean mg mb f fo ca ci cnn c' ad n qual k') : InnerSpec w p loose mean mg mb f fo ca ci cnn c' ad n qual k := by
  intro dp un gd cn cs a ccd cl outer A₀ base h₀ L m s Q E newsX vs ns e x lo tx tl th B F X N T hk CH I hI hk1 hlo hlen hn64 hB hdp hun hret
  obtain ⟨rfl, rfl, rfl⟩ := nest_inj hp (show nestParts (hd.heap_39 w.params) 35 = some (_, _, _) from rfl)
  obtain ⟨oa, hca, dA⟩ := I.ha
  obtain ⟨oi, hci, dI⟩ := I.hi
  obtain ⟨on', tn, hcn, dN⟩ := I.hn
  obtain ⟨oc, vsc, tc, hcc, dC1, dC2⟩ := I.hc
  have hf := I.hf
  have hne := I.ne
  subst hfo
  refine wpAny_call (code_nest B F X N T rfl rfl hk (.tail _ hf) (codeRec_news N (.tail _ hcc) dC1 dC2) (by show dp < recursionLimit; omega) (BindsTo.of_eq rfl) (locs rfl) ?_ rfl rfl rfl (by decide))
  intro g L' h₁ FG F' N' B' X' T'
  dsimp only
  k_fold
  obtain ⟨u, F₂⟩ := fr_kstO [("x", .int x tx), ("L", .int (lo : Int) tl), ("R", .int ((lo + k : Nat) : Int) th)] F' ⟨rfl, rfl, rfl, trivial⟩
  have N₂ := N'
  clear F' N'
  dsimp only [kstB] at F₂
  refine abs_all fun QF hQF => ?_
  by_cases h1 : k = 1
  · have hk1' : ((lo : Int) + 1) = ((lo + k : Nat) : Int) := by omega
    (repeat' (first | (k_unfold; (try dsimp only)) | (walk1 <;> (try dsimp only)) | (dsimp only; walk1) | ((with_reducible rename Post _ _ => hP'); (with_reducible refine Post.of hP' ?_))))
    · refine Stop.of ?_
      rename Fr _ _ _ _ => Fx
      rename News _ _ _ _ => Nx
      refine ksa_set Fx Nx (Upd.head hne) hI (by omega) (by omega) (by omega) ?_
      intro h₅ F₃ N₃ hI₃ _ _
      clear Fx Nx
      (repeat' (first | (k_unfold; (try dsimp only)) | (walk1 <;> (try dsimp only)) | (dsimp only; walk1) | ((with_reducible rename Post _ _ => hP'); (with_reducible refine Post.of hP' ?_))))
      refine hret [x] _ _ _ (by simp [h1]) ?_ (by simp [valD]) ?_ (by assumption) (by assumption)
      · intro d hd
        rw [List.mem_singleton.mp hd]
        refine ⟨hB.h0, ?_⟩
        have hxk := hB.hk
        rw [h1, Nat.mul_one] at hxk
        exact hxk
      · rw [Int.toNat_natCast] at hI₃ ⊢
        have e9 : ns.set lo x = ns.take lo ++ [x] ++ ns.drop (lo + k) := by
          rw [List.set_eq_take_append_cons_drop, if_pos (by omega), h1]; simp
        rw [← e9]
        exact hI₃
  · have nt := on 3
    (repeat' (first | (k_unfold; (try dsimp only)) | (walk1 <;> (try dsimp only)) | (dsimp only; walk1) | ((with_reducible rename Post _ _ => hP'); (with_reducible refine Post.of hP' ?_))))
    refine Stop.of ?_
    rename Fr _ _ _ _ => Fx
    rename News _ _ _ _ => Nx
    obtain ⟨k1, hk1d⟩ : ∃ k1, k1 = k / 2 := ⟨_, rfl⟩
    rename On 3 => nt3
    refine exec_mid (fun m' news' => ∃ t, news' = (ad, listOf vs.toArray e) :: newsX ∧ m' "x" = some (.int x tx) ∧ m' "L" = some (.int (lo : Int) tl) ∧ m' "R" = some (.int ((lo + k : Nat) : Int) th) ∧ m' "mid" = some (.int ((lo + k1 : Nat) : Int) t)) Fx Nx ?_ ?_
    · clear nt3
      (repeat' (first | (k_unfold; (try dsimp only)) | (walk1 <;> (try dsimp only)) | (dsimp only; walk1) | ((with_reducible rename Post _ _ => hP'); (with_reducible refine Post.of hP' ?_))))
      have hmq : ((lo : Int) + ((lo + k : Nat) : Int)).fdiv (2 ^ (1 : Int).toNat) = ((lo + k1 : Nat) : Int) := by rw [hk1d]; exact mid_eq lo k
      exact NextMid.mk (by assumption) (by assumption) ⟨_, rfl, rfl, rfl, rfl, some_int hmq⟩
    · rintro m₁ news₁ h₂ tk₂ F₁ N₁ ⟨tmid, rfl, hx, hL, hR, hmid⟩
      clear Fx Nx
      obtain ⟨u2, F₂⟩ := fr_kstO [("x", .int x tx), ("L", .int (lo : Int) tl), ("R", .int ((lo + k : Nat) : Int) th), ("mid", .int ((lo + k1 : Nat) : Int) tmid)] F₁ ⟨hx, hL, hR, hmid, trivial⟩
      have N₂ := N₁
      clear F₁ N₁ hx hL hR hmid
      dsimp only [kstB] at F₂
      (repeat' (first | (k_unfold; (try dsimp only)) | (walk1 <;> (try dsimp only)) | (dsimp only; walk1) | ((with_reducible rename Post _ _ => hP'); (with_reducible refine Post.of hP' ?_))))
      refine Stop.of ?_
      rename Fr _ _ _ _ => Fx
      rename News _ _ _ _ => Nx
      rename On 3 => nt3
      refine exec_mid (fun m' news' => ∃ t, news' = (ad, listOf vs.toArray e) :: newsX ∧ m' "x" = some (.int x tx) ∧ m' "L" = some (.int (lo : Int) tl) ∧ m' "R" = some (.int ((lo + k : Nat) : Int) th) ∧ m' "mid" = some (.int ((lo + k1 : Nat) : Int) tmid) ∧ m' "shift" = some (.int ((n * k1 : Nat) : Int) t)) Fx Nx ?_ ?_
      · clear nt3
        (repeat' (first | (k_unfold; (try dsimp only)) | (walk1 <;> (try dsimp only)) | (dsimp only; walk1) | ((with_reducible rename Post _ _ => hP'); (with_reducible refine Post.of hP' ?_))))
        refine Stop.of ?_
        refine mul_int ?_ (IntMulOk.of_left (bits_lt (k := 64) (by omega) (Int.lt_of_lt_of_le (b := 100) (by omega) (by decide))))
        (repeat' (first | (k_unfold; (try dsimp only)) | (walk1 <;> (try dsimp only)) | (dsimp only; walk1) | ((with_reducible rename Post _ _ => hP'); (with_reducible refine Post.of hP' ?_))))
        exact NextMid.mk (by assumption) (by assumption) ⟨_, rfl, rfl, rfl, rfl, rfl, some_int (shift_eq lo k1 n)⟩
      · rintro m₁ news₁ h₂ tk₂ F₁ N₁ ⟨tsh, rfl, hx, hL, hR, hmid, hsh⟩
        clear Fx Nx
        obtain ⟨u2, F₂⟩ := fr_kstO [("x", .int x tx), ("L", .int (lo : Int) tl), ("R", .int ((lo + k : Nat) : Int) th), ("mid", .int ((lo + k1 : Nat) : Int) tmid), ("shift", .int ((n * k1 : Nat) : Int) tsh)] F₁ ⟨hx, hL, hR, hmid, hsh, trivial⟩
        have N₂ := N₁
        clear F₁ N₁ hx hL hR hmid hsh
        dsimp only [kstB] at F₂
        (repeat' (first | (k_unfold; (try dsimp only)) | (walk1 <;> (try dsimp only)) | (dsimp only; walk1) | ((with_reducible rename Post _ _ => hP'); (with_reducible refine Post.of hP' ?_))))
        refine Stop.of ?_
        rename Fr _ _ _ _ => Fx
        rename News _ _ _ _ => Nx
        rename On 3 => nt3
        refine exec_mid (fun m' news' => ∃ t, news' = (ad, listOf vs.toArray e) :: newsX ∧ m' "x" = some (.int x tx) ∧ m' "L" = some (.int (lo : Int) tl) ∧ m' "R" = some (.int ((lo + k : Nat) : Int) th) ∧ m' "mid" = some (.int ((lo + k1 : Nat) : Int) tmid) ∧ m' "shift" = some (.int ((n * k1 : Nat) : Int) tsh) ∧ m' "upper" = some (.int (x.fdiv (2 ^ (n * k1))) t)) Fx Nx ?_ ?_
        · clear nt3
          (repeat' (first | (k_unfold; (try dsimp only)) | (walk1 <;> (try dsimp only)) | (dsimp only; walk1) | ((with_reducible rename Post _ _ => hP'); (with_reducible refine Post.of hP' ?_))))
          have huq : x.fdiv (2 ^ ((n * k1 : Nat) : Int).toNat) = x.fdiv (2 ^ (n * k1)) := by rw [Int.toNat_natCast]
          exact NextMid.mk (by assumption) (by assumption) ⟨_, rfl, rfl, rfl, rfl, rfl, rfl, some_int huq⟩
        · rintro m₁ news₁ h₂ tk₂ F₁ N₁ ⟨tup, rfl, hx, hL, hR, hmid, hsh, hup⟩
          clear Fx Nx
          have hBu := up_bounds (k2 := k - k1) hB (show k = k1 + (k - k1) by omega)
          have hBl := low_bounds (k1 := k1) hB
          have hxl := xor_low (n * k1) hB.h0
          have hval : x % 2 ^ (n * k1) + 2 ^ (n * k1) * x.fdiv (2 ^ (n * k1)) = x := by
            rw [Int.fdiv_eq_ediv_of_nonneg _ (Int.le_of_lt (pow_pos' _)), Int.add_comm]; exact Int.mul_ediv_add_emod _ _
          generalize hupd : x.fdiv (2 ^ (n * k1)) = up at *
          obtain ⟨u2, F₂⟩ := fr_kstO [("x", .int x tx), ("L", .int (lo : Int) tl), ("R", .int ((lo + k : Nat) : Int) th), ("mid", .int ((lo + k1 : Nat) : Int) tmid), ("shift", .int ((n * k1 : Nat) : Int) tsh), ("upper", .int up tup)] F₁ ⟨hx, hL, hR, hmid, hsh, hup, trivial⟩
          have N₂ := N₁
          clear F₁ N₁ hx hL hR hmid hsh hup
          dsimp only [kstB] at F₂
          (repeat' (first | (k_unfold; (try dsimp only)) | (walk1 <;> (try dsimp only)) | (dsimp only; walk1) | ((with_reducible rename Post _ _ => hP'); (with_reducible refine Post.of hP' ?_))))
          refine Stop.of ?_
          rename Fr _ _ _ _ => Fx
          rename News _ _ _ _ => Nx
          rename On 3 => nt3
          refine exec_mid (fun m' news' => ∃ t, news' = (ad, listOf vs.toArray e) :: newsX ∧ m' "x" = some (.int x tx) ∧ m' "L" = some (.int (lo : Int) tl) ∧ m' "R" = some (.int ((lo + k : Nat) : Int) th) ∧ m' "mid" = some (.int ((lo + k1 : Nat) : Int) tmid) ∧ m' "upper" = some (.int up tup) ∧ m' "lower" = some (.int (x % 2 ^ (n * k1)) t)) Fx Nx ?_ ?_
          · clear nt3
            (repeat' (first | (k_unfold; (try dsimp only)) | (walk1 <;> (try dsimp only)) | (dsimp only; walk1) | ((with_reducible rename Post _ _ => hP'); (with_reducible refine Post.of hP' ?_))))
            refine Stop.of ?_
            have hnk : n * k1 ≤ 64 * 64 := Nat.mul_le_mul hn64 (by omega)
            refine lshift_int_small (by omega) (by omega) (abs_bounds hBu) ?_
            have hlq : Builtin.bitXor x (up * 2 ^ ((n * k1 : Nat) : Int).toNat) = x % 2 ^ (n * k1) := by rw [Int.toNat_natCast]; exact hxl
            (repeat' (first | (k_unfold; (try dsimp only)) | (walk1 <;> (try dsimp only)) | (dsimp only; walk1) | ((with_reducible rename Post _ _ => hP'); (with_reducible refine Post.of hP' ?_))))
            exact NextMid.mk (by assumption) (by assumption) ⟨_, rfl, rfl, rfl, rfl, rfl, rfl, some_int hlq⟩
          · rintro m₁ news₁ h₂ tk₂ F₁ N₁ ⟨tlo, rfl, hx, hL, hR, hmid, hup, hlow⟩
            clear Fx Nx nt3
            generalize hlowd : x % 2 ^ (n * k1) = low at *
            obtain ⟨u2, F₂⟩ := fr_kstO [("x", .int x tx), ("L", .int (lo : Int) tl), ("R", .int ((lo + k : Nat) : Int) th), ("mid", .int ((lo + k1 : Nat) : Int) tmid), ("upper", .int up tup), ("lower", .int low tlo)] F₁ ⟨hx, hL, hR, hmid, hup, hlow, trivial⟩
            have N₂ := N₁
            clear F₁ N₁ hx hL hR hmid hup hlow
            dsimp only [kstB] at F₂
            (repeat' (first | (k_unfold; (try dsimp only)) | (walk1 <;> (try dsimp only)) | (dsimp only; walk1) | ((with_reducible rename Post _ _ => hP'); (with_reducible refine Post.of hP' ?_))))
            refine Stop.of ?_
            rename Fr _ _ _ _ => Fx
            rename News _ _ _ _ => Nx
            k_dflt (refine ih k1 (by omega) _ _ _ _ _ _ _ _ _ _ _ _ _ _ _ _ _ _ _ _ _ _ _ _ _ _ B' Fx X' Nx T' rfl CH I hI ?_ ?_ hlen hn64 hBl ?_ ?_ ?_)
            · omega
            · omega
            · show dp + 1 + k1 < recursionLimit
              omega
            · show un + 3 + 8 * k1 < cLine
              omega
            · intro ds1 vs1 h₃ tk₃ hl1 hd1 hv1 hI1 F₃ N₃
              clear Fx Nx
              have hl9 : (ns.take lo ++ ds1 ++ ns.drop (lo + k1)).length = ns.length := by rw [List.length_append, List.length_append, List.length_take, List.length_drop]; omega
              generalize hns2 : ns.take lo ++ ds1 ++ ns.drop (lo + k1) = ns2 at *
              (repeat' (first | (k_unfold; (try dsimp only)) | (walk1 <;> (try dsimp only)) | (dsimp only; walk1) | ((with_reducible rename Post _ _ => hP'); (with_reducible refine Post.of hP' ?_))))
              refine Stop.of ?_
              rename Fr _ _ _ _ => Fx
              rename News _ _ _ _ => Nx
              rw [show lo + k = lo + k1 + (k - k1) by omega]
              rw [show lo + k = lo + k1 + (k - k1) by omega] at Fx
              k_dflt (refine ih (k - k1) (by omega) _ _ _ _ _ _ _ _ _ _ _ _ _ _ _ _ _ _ _ _ _ _ _ _ _ _ B' Fx X' Nx T' rfl CH I hI1 ?_ ?_ ?_ hn64 hBu ?_ ?_ ?_)
              · omega
              · omega
              · omega
              · show dp + 1 + (k - k1) < recursionLimit
                omega
              · show un + 3 + 8 * (k - k1) < cLine
                omega
              · intro ds2 vs2 h₄ tk₄ hl2 hd2 hv2 hI2 F₄ N₄
                clear Fx Nx
                (repeat' (first | (k_unfold; (try dsimp only)) | (walk1 <;> (try dsimp only)) | (dsimp only; walk1) | ((with_reducible rename Post _ _ => hP'); (with_reducible refine Post.of hP' ?_))))
                refine hret (ds1 ++ ds2) vs2 _ _ (by rw [List.length_append]; omega) ?_ ?_ ?_ (by assumption) (by assumption)
                · intro d hd
                  rcases List.mem_append.mp hd with hd | hd
                  · exact hd1 d hd
                  · exact hd2 d hd
                · rw [valD_append, hv1, hv2, hl1]
                  exact hval
                · rw [← hns2, splice hl1 (by omega)] at hI2
                  rw [show lo + k = lo + k1 + (k - k1) by omega]
                  exact hI2
theorem inner_all {w : World} {p : Program} {loose : List Str} {mean : ExcName → Option Value} {mg mb : Fm} {f : Addr} {fo : Obj} {ca ci cnn c' ad : Addr} {n : Nat} {qual : Str} {params : Arguments} {body : List Stmt} {scope : Scope} {doc pm ct : Value}
    (hp : nestParts (hd.heap_39 w.params) 35 = some (params, body, scope)) (hfo : fo = fnMade "inner" qual params body scope [("n", cnn), ("inner", ci), ("a_digits", ca)] doc pm c' ct)
    (k : Nat) : InnerSpec w p loose mean mg mb f fo ca ci cnn c' ad n qual k :=
  Nat.strongRecOn k fun k ih => inner_step hp hfo k ih
end Mine

set_option maxHeartbeats 2000000
namespace Mine
theorem fill8 : PySem.Challenge.rw_re0095_01 = PySem.Challenge.rw_re0095_01 ∧ hd.heap_39 = hd.heap_39 := by
  k_fill
  exact ⟨rfl, rfl⟩
local macro_rules | `(tactic| walk_at "call ref") => `(tactic| refine Stop.mk ?_)
theorem head_is {h₀ h : Heap} {L a : Addr} {o : Obj} {r : Led} (_ : News h₀ L h ((a, o) :: r)) : ∃ o', o' = o := ⟨o, rfl⟩
/-- the table of the nested def's code, empty or filled at first use -/
inductive T30 : Led → Prop
  | empty : T30 [(30, tabObj #[])]
  | full {c : Addr} {oc : Obj} {vs : Array Value} {t : Tok} (hd : oc.data = .fields vs) (hv : vs[1]? = some (.str "_int2digits.<locals>.inner" t)) (hc : 37 < c) : T30 [(30, tabObj #[rawInt (32 : Nat), rawInt (4 : Nat), .ref c]), (c, oc)]
theorem news_rot2 {h₀ h : Heap} {L : Addr} {a b : Addr × Obj} {r : Led} (N : News h₀ L h (a :: b :: r)) : News h₀ L h (b :: a :: r) := fun p hp => N p (by
  rcases List.mem_cons.mp hp with rfl | hp
  · exact .tail _ (.head _)
  · rcases List.mem_cons.mp hp with rfl | hp
    · exact .head _
    · exact .tail _ (.tail _ hp))
theorem news_rot3 {h₀ h : Heap} {L : Addr} {a b c : Addr × Obj} {r : Led} (N : News h₀ L h (a :: b :: c :: r)) : News h₀ L h (c :: a :: b :: r) := fun p hp => N p (by
  rcases List.mem_cons.mp hp with rfl | hp
  · exact .tail _ (.tail _ (.head _))
  · rcases List.mem_cons.mp hp with rfl | hp
    · exact .head _
    · rcases List.mem_cons.mp hp with rfl | hp
      · exact .tail _ (.head _)
      · exact .tail _ (.tail _ (.tail _ hp)))
theorem kk_spec {b n : Nat} (hn : 0 < n) : ∃ kk : Nat, ((b : Int) + (n : Int) - 1).fdiv n = (kk : Int) ∧ b ≤ n * kk ∧ kk ≤ b ∧ (b ≠ 0 → 1 ≤ kk) := by
  refine ⟨(b + n - 1) / n, ?_, ?_, ?_, ?_⟩
  · rw [Int.fdiv_eq_ediv_of_nonneg _ (by omega)]
    have : ((b : Int) + (n : Int) - 1) = ((b + n - 1 : Nat) : Int) := by omega
    rw [this]
    simp
  · have h := Nat.div_add_mod (b + n - 1) n
    have h2 := Nat.mod_lt (b + n - 1) hn
    generalize n * ((b + n - 1) / n) = z at *
    omega
  · rw [Nat.div_le_iff_le_mul_add_pred hn]
    have : b ≤ n * b := Nat.le_mul_of_pos_left b hn
    omega
  · intro hb
    exact (Nat.le_div_iff_mul_le hn).mpr (by omega)
section
variable {w : World} {p : Program} {loose : List Str} {mean : ExcName → Option Value} {mg mb : Fm} {dp un : Nat} {gd : Option (List Code)} {cn : Str} {cs : Scope} {a : Addr} {ccd : Value} {cl : List (Str × Addr)} {outer : List Env} {A₀ : Around} {base h₀ : Heap} {L : Addr} {m : Fm} {s : Shared} {Q E : Value → Shared → Prop} {news : Led}
structure XN (x : Int) (n : Nat) : Prop where
  h0 : 0 ≤ x
  h62 : x < 2 ^ 62
  n0 : 0 < n
  n64 : n ≤ 64
structure KK (x : Int) (n kk : Nat) : Prop where
  k64 : kk ≤ 64
  lt : x < 2 ^ (n * kk)
  pos : x ≠ 0 → 1 ≤ kk
  zero : x = 0 → kk = 0
theorem kk_of {x : Int} {n : Nat} (h : XN x n) : ∃ kk : Nat, (↑(Builtin.Int.intBits x) + (n : Int) - 1).fdiv n = (kk : Int) ∧ KK x n kk := by
  obtain ⟨kk, hkk, hkb, hkb', hk1⟩ := kk_spec (b := Builtin.Int.intBits x) h.n0
  have hb62 := bits_lt h.h0 h.h62
  refine ⟨kk, hkk, by omega, ?_, fun hx => hk1 fun hb => ?_, fun hx => ?_⟩
  · exact Int.lt_of_lt_of_le (lt_bits h.h0) (by exact_mod_cast Nat.pow_le_pow_right (by decide) hkb)
  · have := lt_bits h.h0
    rw [hb] at this
    have h0 := h.h0
    simp at this
    omega
  · subst hx
    have : Builtin.Int.intBits 0 = 0 := rfl
    omega
theorem int2digits {x : Int} {n : Nat} {tx tn : Tok} {t30 : Led}
   (B : Below A₀ base outer h₀) (F : Fr h₀ L s.heap m) (X : (hd.heap_39 w.params).In h₀) (hT : T30 t30) (N : News h₀ L s.heap (t30 ++ news)) (T : Top p loose mean mg mb h₀) (hk : cs.kind = .function)
   (C30 : CodeHd base 34 30) (hi : ∀ p ∈ news, p.1 ≠ 30) {o37 : Obj} (h37 : (37, o37) ∈ news) (hXN : XN x n) (hdp : dp + 100 < recursionLimit) (hu : un + 900 < cLine)
   (hret : ∀ (t30' : Led) (D : Addr) (ds : List Int) (vs : List Value) (e : Nat) (h' : Heap) (tk' : Nat), T30 t30' → IntsAre vs ds → ds.length ≤ 64 → (∀ d ∈ ds, 0 ≤ d ∧ d < 2 ^ n) → valD n ds = x → Fr h₀ L h' m → News h₀ L h' ((D, listOf vs.toArray e) :: (t30' ++ news)) → (∀ p ∈ t30' ++ news, p.1 ≠ D) → 37 < D → Q (.ref D) { s with heap := h', toks := tk' }) :
   wpAny (model P0 w) (ktrTop dp un gd cn cs L a ccd cl outer) (call (.ref 35) [.int x tx, .int (n : Int) tn]) Q E s := by
  obtain ⟨kk, hkk, hKK⟩ := kk_of hXN
  have hkk64 := hKK.k64
  have hn0 := hXN.n0
  have hn64 := hXN.n64
  have h30 : ∀ p ∈ news, p.1 ≠ 30 := hi
  cases hT with
  | empty =>
    rw [List.singleton_append] at N
    refine wpAny_call ?_
    k_dflt (refine' code_defC ?k1 ?k2 ?k3 ?k4 ?k5 ?kA ?kF ?kK ?k6 ?k7 ?k8 ?k9 ?kB ?kD ?_ ?c2 ?c3 ?c4; (case kA => exact rfl); (case kF => exact rfl); (case kK => assumption); (case k1 => k_asm); (case k2 => k_asm); (case k3 => k_asm); (case k4 => k_asm); (case k5 => k_asm); (case k6 => k_is); (case k7 => k_is); (case k8 => ktr_room); (case k9 => exact BindsTo.of_eq rfl); (case kB => exact rfl); (case kD => decide +kernel); (case c2 => exact rfl); (case c3 => exact rfl); (case c4 => exact rfl); k_whole; intro g' L' _ _ _ FG F' N' Y' B' X' T' l1; (try k_lt l1); k_cells Y'; (try simp only [List.cons_append, List.nil_append] at N'); (try dsimp only); (try k_lift B'); (try k_fold))
    refine abs_all fun QF hQF => ?_
    rename _ ∧ AllLt _ _ => hl0
    obtain ⟨hl0, hl1⟩ := hl0
    have hl37 : @LT.lt Nat instLTNat 37 _ := ktn_ltOf hl1 _ h37
    (repeat' (first | (k_unfold; (try dsimp only)) | (walk1 <;> (try dsimp only)) | (dsimp only; walk1) | ((with_reducible rename Post _ _ => hP'); (with_reducible refine Post.of hP' ?_))))
    · refine Stop.of ?_
      rename Fr _ _ _ _ => Fx
      rename News _ _ _ _ => Nx
      obtain ⟨fo, hfo⟩ := head_is Nx
      rw [← hfo] at Nx
      rename_i _ _ o1 o2 o3 d1 d2 d3 l' _ lA D' _ i1 n1 s1 e1 e2 e3 lB _ oA dA f' c' oc vsc tc ct dc _ _ dc1 dc2 lc1 lc2 _ oF dF hne
      have d3' : o3.data = Data.cell (some (.int (n : Int) tn)) := d3
      have dc2' : vsc[1]? = some (.str "_int2digits.<locals>.inner" tc) := dc2
      have hn1 : n1 = 0 + kk := by
        have e9 := e3 (by omega)
        rw [hkk] at e9
        simp at e9
        omega
      subst hn1
      have Ny := news_rot3 Nx
      have hS := inner_all (p := p) (loose := loose) (mean := mean) (mg := mg) (mb := mb) (ad := D') (n := n) (f := f') (show nestParts (hd.heap_39 w.params) 35 = some (_, _, _) from rfl) hfo kk
      have hx0 := hXN.h0
      k_dflt (refine hS _ _ _ _ _ _ _ _ _ _ _ _ _ _ _ _ _ _ _ _ _ _ 0 _ _ _ B' Fx X' Ny T' rfl C30 ?_ i1 ?_ ?_ ?_ ?_ ⟨hXN.h0, hKK.lt, hXN.h62⟩ ?_ ?_ ?_)
      · refine ⟨.head _, ⟨oA, by simp, dA⟩, ⟨oF, by simp, dF⟩, ⟨o3, tn, by simp, d3'⟩, ⟨oc, vsc, tc, by simp, dc1, dc2⟩, ?_⟩
        obtain ⟨b1, b2, b3, b4, b5, b6⟩ := lB
        obtain ⟨c1, _⟩ := lc1
        intro p hp
        simp only [List.mem_cons] at hp
        refine neN ?_
        rcases hp with rfl | rfl | rfl | rfl | rfl | rfl | rfl | hp
        · show @Ne Nat (f') D'; omega
        · show @Ne Nat (c') D'; omega
        · show @Ne Nat (l') D'; omega
        · show @Ne Nat (L' + 1 + 1 + 1) D'; omega
        · show @Ne Nat (L' + 1 + 1) D'; omega
        · show @Ne Nat (L' + 1) D'; omega
        · show @Ne Nat (30) D'; omega
        · exact allNe_of b6 (Nat.le_refl _) p hp
      · exact hKK.pos hne
      · omega
      · omega
      · omega
      · show dp + 1 + kk < recursionLimit
        omega
      · show un + 3 + 8 * kk < cLine
        omega
      · intro ds vs' h₃ tk₃ hl1 hd1 hv1 hI1 F₃ N₃
        clear Fx Nx Ny hS
        (repeat' (first | (k_unfold; (try dsimp only)) | (walk1 <;> (try dsimp only)) | (dsimp only; walk1) | ((with_reducible rename Post _ _ => hP'); (with_reducible refine Post.of hP' ?_))))
        obtain ⟨b1, b2, b3, b4, b5, b6⟩ := lB
        obtain ⟨c1, c2, c3, c4, c5, c6, c7⟩ := lc1
        refine hret [(30, tabObj #[rawInt (32 : Nat), rawInt (4 : Nat), .ref c']), (c', oc)] D' ds vs' 0 _ _ (.full dc1 dc2' (show @LT.lt Nat instLTNat 37 c' by omega)) ?_ (by omega) hd1 hv1 (by assumption) (news_sub (by assumption) ?_) ?_ (show @LT.lt Nat instLTNat 37 D' by omega)
        · rw [List.drop_eq_nil_of_le (by rw [e1]; exact Nat.le_refl _)] at hI1
          simpa using hI1
        · intro p hp
          simp only [List.cons_append, List.nil_append, List.mem_cons] at hp ⊢
          rcases hp with h | h | h | h <;> simp [h]
        · intro p hp
          simp only [List.cons_append, List.nil_append, List.mem_cons] at hp
          refine neN ?_
          rcases hp with rfl | rfl | hp
          · show @Ne Nat 30 D'; omega
          · show @Ne Nat c' D'; omega
          · exact allNe_of b6 (Nat.le_refl _) p hp
    · rename x = 0 => hx0
      rename_i _ _ o1 o2 o3 d1 d2 d3 l' _ lA D' _ i1 n1 s1 e1 e2 e3 lB _ oA dA f' c' oc vsc tc ct dc _ _ dc1 dc2 lc1 lc2 _ oF _ _ dF kF kN _ _
      have dc2' : vsc[1]? = some (.str "_int2digits.<locals>.inner" tc) := dc2
      have hn1 : n1 = 0 := by
        have e9 := e3 (by omega)
        rw [hkk, hKK.zero hx0] at e9
        simp at e9
        exact e9
      have hnil := List.eq_nil_of_length_eq_zero (e1.trans hn1)
      rw [hnil] at i1
      obtain ⟨b1, b2, b3, b4, b5, b6⟩ := lB
      obtain ⟨c1, c2, c3, c4, c5, c6, c7⟩ := lc1
      refine hret [(30, tabObj #[rawInt (32 : Nat), rawInt (4 : Nat), .ref c']), (c', oc)] D' [] _ 0 _ _ (.full dc1 dc2' (show @LT.lt Nat instLTNat 37 c' by omega)) i1 (Nat.zero_le _) (fun _ h => nomatch h) hx0.symm kF (news_sub kN ?_) ?_ (show @LT.lt Nat instLTNat 37 D' by omega)
      · intro p hp
        simp only [List.cons_append, List.nil_append, List.mem_cons] at hp ⊢
        rcases hp with h | h | h | h <;> simp [h]
      · intro p hp
        simp only [List.cons_append, List.nil_append, List.mem_cons] at hp
        refine neN ?_
        rcases hp with rfl | rfl | hp
        · show @Ne Nat 30 D'; omega
        · show @Ne Nat c' D'; omega
        · exact allNe_of b6 (Nat.le_refl _) p hp
  | @full c oc vsc tc hcd hv hc =>
    rw [List.cons_append, List.singleton_append] at N
    refine wpAny_call ?_
    k_dflt (refine' code_defC ?k1 ?k2 ?k3 ?k4 ?k5 ?kA ?kF ?kK ?k6 ?k7 ?k8 ?k9 ?kB ?kD ?_ ?c2 ?c3 ?c4; (case kA => exact rfl); (case kF => exact rfl); (case kK => assumption); (case k1 => k_asm); (case k2 => k_asm); (case k3 => k_asm); (case k4 => k_asm); (case k5 => k_asm); (case k6 => k_is); (case k7 => k_is); (case k8 => ktr_room); (case k9 => exact BindsTo.of_eq rfl); (case kB => exact rfl); (case kD => decide +kernel); (case c2 => exact rfl); (case c3 => exact rfl); (case c4 => exact rfl); k_whole; intro g' L' _ _ _ FG F' N' Y' B' X' T' l1; (try k_lt l1); k_cells Y'; (try simp only [List.cons_append, List.nil_append] at N'); (try dsimp only); (try k_lift B'); (try k_fold))
    refine abs_all fun QF hQF => ?_
    rename _ ∧ _ ∧ AllLt _ _ => hl0
    obtain ⟨hl0, hlc, hl1⟩ := hl0
    have hl37 : @LT.lt Nat instLTNat 37 _ := ktn_ltOf hl1 _ h37
    have hc' : @LT.lt Nat instLTNat 37 c := hc
    (repeat' (first | (k_unfold; (try dsimp only)) | (walk1 <;> (try dsimp only)) | (dsimp only; walk1) | ((with_reducible rename Post _ _ => hP'); (with_reducible refine Post.of hP' ?_))))
    · refine Stop.of ?_
      rename Fr _ _ _ _ => Fx
      rename News _ _ _ _ => Nx
      obtain ⟨fo, hfo⟩ := head_is Nx
      rw [← hfo] at Nx
      rename_i _ _ o1 o2 o3 d1 d2 d3 l' _ lA D' _ i1 n1 s1 e1 e2 e3 lB _ oA dA f' ct dc _ _ lf _ oF dF hne
      have d3' : o3.data = Data.cell (some (.int (n : Int) tn)) := d3
      have hn1 : n1 = 0 + kk := by
        have e9 := e3 (by omega)
        rw [hkk] at e9
        simp at e9
        omega
      subst hn1
      have Ny := news_rot2 Nx
      have hS := inner_all (p := p) (loose := loose) (mean := mean) (mg := mg) (mb := mb) (ad := D') (n := n) (f := f') (show nestParts (hd.heap_39 w.params) 35 = some (_, _, _) from rfl) hfo kk
      have hx0 := hXN.h0
      k_dflt (refine hS _ _ _ _ _ _ _ _ _ _ _ _ _ _ _ _ _ _ _ _ _ _ 0 _ _ _ B' Fx X' Ny T' rfl C30 ?_ i1 ?_ ?_ ?_ ?_ ⟨hXN.h0, hKK.lt, hXN.h62⟩ ?_ ?_ ?_)
      · refine ⟨.head _, ⟨oA, by simp, dA⟩, ⟨oF, by simp, dF⟩, ⟨o3, tn, by simp, d3'⟩, ⟨oc, vsc, tc, by simp, hcd, hv⟩, ?_⟩
        obtain ⟨b1, b2, b3, b4, b5, b5', b6⟩ := lB
        obtain ⟨c1, _⟩ := lf
        intro p hp
        simp only [List.mem_cons] at hp
        refine neN ?_
        rcases hp with rfl | rfl | rfl | rfl | rfl | rfl | rfl | hp
        · show @Ne Nat f' D'; omega
        · show @Ne Nat l' D'; omega
        · show @Ne Nat (L' + 1 + 1 + 1) D'; omega
        · show @Ne Nat (L' + 1 + 1) D'; omega
        · show @Ne Nat (L' + 1) D'; omega
        · show @Ne Nat 30 D'; omega
        · show @Ne Nat c D'; omega
        · exact allNe_of b6 (Nat.le_refl _) p hp
      · exact hKK.pos hne
      · omega
      · omega
      · omega
      · show dp + 1 + kk < recursionLimit
        omega
      · show un + 3 + 8 * kk < cLine
        omega
      · intro ds vs' h₃ tk₃ hl1 hd1 hv1 hI1 F₃ N₃
        clear Fx Nx Ny hS
        (repeat' (first | (k_unfold; (try dsimp only)) | (walk1 <;> (try dsimp only)) | (dsimp only; walk1) | ((with_reducible rename Post _ _ => hP'); (with_reducible refine Post.of hP' ?_))))
        obtain ⟨b1, b2, b3, b4, b5, b5', b6⟩ := lB
        refine hret [(30, tabObj #[rawInt (32 : Nat), rawInt (4 : Nat), .ref c]), (c, oc)] D' ds vs' 0 _ _ (.full hcd hv hc) ?_ (by omega) hd1 hv1 (by assumption) (news_sub (by assumption) ?_) ?_ (show @LT.lt Nat instLTNat 37 D' by omega)
        · rw [List.drop_eq_nil_of_le (by rw [e1]; exact Nat.le_refl _)] at hI1
          simpa using hI1
        · intro p hp
          simp only [List.cons_append, List.nil_append, List.mem_cons] at hp ⊢
          rcases hp with h | h | h | h <;> simp [h]
        · intro p hp
          simp only [List.cons_append, List.nil_append, List.mem_cons] at hp
          refine neN ?_
          rcases hp with rfl | rfl | hp
          · show @Ne Nat 30 D'; omega
          · show @Ne Nat c D'; omega
          · exact allNe_of b6 (Nat.le_refl _) p hp
    · rename x = 0 => hx0
      rename_i _ _ o1 o2 o3 d1 d2 d3 l' _ lA D' _ i1 n1 s1 e1 e2 e3 lB _ oA dA f' ct dc _ _ lf _ oF _ _ dF kF kN _ _
      have hn1 : n1 = 0 := by
        have e9 := e3 (by omega)
        rw [hkk, hKK.zero hx0] at e9
        simp at e9
        exact e9
      have hnil := List.eq_nil_of_length_eq_zero (e1.trans hn1)
      rw [hnil] at i1
      obtain ⟨b1, b2, b3, b4, b5, b5', b6⟩ := lB
      refine hret [(30, tabObj #[rawInt (32 : Nat), rawInt (4 : Nat), .ref c]), (c, oc)] D' [] _ 0 _ _ (.full hcd hv hc) i1 (Nat.zero_le _) (fun _ h => nomatch h) hx0.symm kF (news_sub kN ?_) ?_ (show @LT.lt Nat instLTNat 37 D' by omega)
      · intro p hp
        simp only [List.cons_append, List.nil_append, List.mem_cons] at hp ⊢
        rcases hp with h | h | h | h <;> simp [h]
      · intro p hp
        simp only [List.cons_append, List.nil_append, List.mem_cons] at hp
        refine neN ?_
        rcases hp with rfl | rfl | hp
        · show @Ne Nat 30 D'; omega
        · show @Ne Nat c D'; omega
        · exact allNe_of b6 (Nat.le_refl _) p hp
end
end Mine

set_option maxHeartbeats 2000000
namespace Mine
theorem fill10 : PySem.Challenge.rw_re0095_01 = PySem.Challenge.rw_re0095_01 ∧ hd.heap_39 = hd.heap_39 := by
  k_fill
  exact ⟨rfl, rfl⟩
local macro_rules | `(tactic| walk_at $s:str) => do if ["call ref", "setItem ref int", "binaryOp LShift int int", "binaryOp Mult int int"].contains s.getString then `(tactic| refine Stop.mk ?_) else Lean.Macro.throwUnsupported
local macro_rules | `(tactic| walk_at "exec Assign cons BinOp") => `(tactic| ((with_reducible rename On 3 => nt'); refine Stop.mk ?_))

structure InLed2 (newsX : Led) (f : Addr) (fo : Obj) (ca ci cnn c' ad : Addr) (n : Nat) (qual : Str) (vs : List Value) (e : Nat) : Prop where
  hf : (f, fo) ∈ newsX
  ha : ∃ oa, (ca, oa) ∈ newsX ∧ oa.data = .cell (some (.ref ad))
  hi : ∃ oi, (ci, oi) ∈ newsX ∧ oi.data = .cell (some (.ref f))
  hn : ∃ on tn, (cnn, on) ∈ newsX ∧ on.data = .cell (some (.int (n : Int) tn))
  hc : ∃ oc vs t, (c', oc) ∈ newsX ∧ oc.data = .fields vs ∧ vs[1]? = some (.str qual t)
  hl : (ad, listOf vs.toArray e) ∈ newsX
structure DB (ns : List Int) (n : Nat) : Prop where
  all : ∀ d ∈ ns, 0 ≤ d ∧ d < 2 ^ n
theorem valD_bounds (n : Nat) (ds : List Int) : (∀ d ∈ ds, 0 ≤ d ∧ d < 2 ^ n) → 0 ≤ valD n ds ∧ valD n ds < 2 ^ (n * ds.length) := by
  induction ds with
  | nil => intro _; simp [valD]
  | cons d ds ih =>
    intro h
    have h1 := h d (.head _)
    obtain ⟨h2, h3⟩ := ih fun x hx => h x (.tail _ hx)
    rw [valD, List.length_cons, Nat.mul_succ, Nat.add_comm, Int.pow_add]
    have hp := pow_pos' n
    have h4 : 0 ≤ 2 ^ n * valD n ds := Int.mul_nonneg (Int.le_of_lt hp) h2
    have h5 : 2 ^ n * (valD n ds + 1) ≤ 2 ^ n * 2 ^ (n * ds.length) := Int.mul_le_mul_of_nonneg_left (by omega) (Int.le_of_lt hp)
    rw [Int.mul_add, Int.mul_one] at h5
    omega
theorem part_bits {ns : List Int} {n lo k : Nat} (h : DB ns n) (hn : n ≤ 64) (hk : k ≤ 64) : Builtin.Int.intBits (valD n ((ns.drop lo).take k)) ≤ 4096 := by
  have hb := valD_bounds n ((ns.drop lo).take k) fun d hd => h.all d (List.mem_of_mem_drop (List.mem_of_mem_take hd))
  refine Nat.le_trans (bits_lt hb.1 hb.2) ?_
  have : ((ns.drop lo).take k).length ≤ 64 := by rw [List.length_take]; omega
  exact Nat.mul_le_mul hn this
theorem part_split {ns : List Int} {n lo k k1 : Nat} (hk : k1 ≤ k) (h : lo + k ≤ ns.length) :
    valD n ((ns.drop lo).take k) = valD n ((ns.drop (lo + k1)).take (k - k1)) * 2 ^ (n * k1) + valD n ((ns.drop lo).take k1) := by
  have e : (ns.drop lo).take k = (ns.drop lo).take k1 ++ (ns.drop (lo + k1)).take (k - k1) := by
    have e1 : k = k1 + (k - k1) := by omega
    conv => lhs; rw [e1, List.take_add, List.drop_drop]
  have hl : ((ns.drop lo).take k1).length = k1 := by rw [List.length_take, List.length_drop]; omega
  rw [e, valD_append, hl, Int.mul_comm, Int.add_comm]
noncomputable abbrev InnerSpec2 (w : World) (p : Program) (loose : List Str) (mean : ExcName → Option Value) (mg mb : Fm) (f : Addr) (fo : Obj) (ca ci cnn c' ad : Addr) (n : Nat) (qual : Str) (vs : List Value) (ns : List Int) (e : Nat) (k : Nat) : Prop :=
  ∀ (dp un : Nat) (gd : Option (List Code)) (cn : Str) (cs : Scope) (a : Addr) (ccd : Value) (cl : List (Str × Addr)) (outer : List Env) (A₀ : Around) (base h₀ : Heap) (L : Addr) (m : Fm) (s : Shared) (Q E : Value → Shared → Prop) (newsX : Led) (lo : Nat) (tl th : Tok),
    Below A₀ base outer h₀ → Fr h₀ L s.heap m → (hd.heap_39 w.params).In h₀ → News h₀ L s.heap newsX → Top p loose mean mg mb h₀ → cs.kind = .function → CodeHd base 41 37 →
    InLed2 newsX f fo ca ci cnn c' ad n qual vs e → 1 ≤ k → lo + k ≤ ns.length → dp + k < recursionLimit → un + 8 * k < cLine →
    (∀ t h' tk', Fr h₀ L h' m → News h₀ L h' newsX → Q (.int (valD n ((ns.drop lo).take k)) t) { s with heap := h', toks := tk' }) →
    wpAny (model P0 w) (ktrTop dp un gd cn cs L a ccd cl outer) (call (.ref f) [.int (lo : Int) tl, .int ((lo + k : Nat) : Int) th]) Q E s
theorem inner2_step {w : World} {p : Program} {loose : List Str} {mean : ExcName → Option Value} {mg mb : Fm} {f : Addr} {fo : Obj} {ca ci cnn c' ad : Addr} {n : Nat} {qual : Str} {vs : List Value} {ns : List Int} {e : Nat} {params : Arguments} {body : List Stmt} {scope : Scope} {doc pm ct : Value}
    (hp : nestParts (hd.heap_39 w.params) 42 = some (params, body, scope)) (hfo : fo = fnMade "inner" qual params body scope [("n", cnn), ("inner", ci), ("digits", ca)] doc pm c' ct)
    (hI : IntsAre vs ns) (hlen : ns.length ≤ 64) (hn64 : n ≤ 64) (hB : DB ns n)
    (k : Nat) (ih : ∀ k', k' < k → InnerSpec2 w p loose mean mg mb f fo ca ci cnn c' ad n qual vs ns e k') : InnerSpec2 w p loose mean mg mb f fo ca ci cnn c' ad n qual vs ns e k := by
  intro dp un gd cn cs a ccd cl outer A₀ base h₀ L m s Q E newsX lo tl th B F X N T hk CH I hk1 hlo hdp hun hret
  obtain ⟨rfl, rfl, rfl⟩ := nest_inj hp (show nestParts (hd.heap_39 w.params) 42 = some (_, _, _) from rfl)
  obtain ⟨oa, hca, dA⟩ := I.ha
  obtain ⟨oi, hci, dI⟩ := I.hi
  obtain ⟨on', tn, hcn, dN⟩ := I.hn
  obtain ⟨oc, vsc, tc, hcc, dC1, dC2⟩ := I.hc
  have hf := I.hf
  have hl := I.hl
  subst hfo
  refine wpAny_call (code_nest B F X N T rfl rfl hk hf (codeRec_news N hcc dC1 dC2) (by show dp < recursionLimit; omega) (BindsTo.of_eq rfl) (locs rfl) ?_ rfl rfl rfl (by decide))
  intro g L' h₁ FG F' N' B' X' T'
  dsimp only
  k_fold
  obtain ⟨u, F₂⟩ := fr_kstO [("L", .int (lo : Int) tl), ("R", .int ((lo + k : Nat) : Int) th)] F' ⟨rfl, rfl, trivial⟩
  have N₂ := N'
  clear F' N'
  dsimp only [kstB] at F₂
  have hlns : (lo : Int) < (ns.length : Int) := by omega
  by_cases h1 : k = 1
  · (repeat' (first | (k_unfold; (try dsimp only)) | (walk1 <;> (try dsimp only)) | (dsimp only; walk1) | ((with_reducible rename Post _ _ => hP'); (with_reducible refine Post.of hP' ?_))))
    · refine cb_retI (Q := Q) hret ?_ (by assumption) (by assumption)
      have hll : lo < ns.length := by omega
      have e9 : (ns.drop lo).take 1 = [ns[lo]] := by rw [List.drop_eq_getElem_cons hll]; rfl
      rw [h1, Int.toNat_natCast, e9]
      simp [valD, hll]
  · have nt := on 3
    (repeat' (first | (k_unfold; (try dsimp only)) | (walk1 <;> (try dsimp only)) | (dsimp only; walk1) | ((with_reducible rename Post _ _ => hP'); (with_reducible refine Post.of hP' ?_))))
    refine Stop.of ?_
    rename Fr _ _ _ _ => Fx
    rename News _ _ _ _ => Nx
    obtain ⟨k1, hk1d⟩ : ∃ k1, k1 = k / 2 := ⟨_, rfl⟩
    rename On 3 => nt3
    refine exec_mid (fun m' news' => ∃ t, news' = newsX ∧ m' "L" = some (.int (lo : Int) tl) ∧ m' "R" = some (.int ((lo + k : Nat) : Int) th) ∧ m' "mid" = some (.int ((lo + k1 : Nat) : Int) t)) Fx Nx ?_ ?_
    · clear nt3
      (repeat' (first | (k_unfold; (try dsimp only)) | (walk1 <;> (try dsimp only)) | (dsimp only; walk1) | ((with_reducible rename Post _ _ => hP'); (with_reducible refine Post.of hP' ?_))))
      have hmq : ((lo : Int) + ((lo + k : Nat) : Int)).fdiv (2 ^ (1 : Int).toNat) = ((lo + k1 : Nat) : Int) := by rw [hk1d]; exact mid_eq lo k
      exact NextMid.mk (by assumption) (by assumption) ⟨_, rfl, rfl, rfl, some_int hmq⟩
    · rintro m₁ news₁ h₂ tk₂ F₁ N₁ ⟨tmid, rfl, hL, hR, hmid⟩
      clear Fx Nx
      obtain ⟨u2, F₂⟩ := fr_kstO [("L", .int (lo : Int) tl), ("R", .int ((lo + k : Nat) : Int) th), ("mid", .int ((lo + k1 : Nat) : Int) tmid)] F₁ ⟨hL, hR, hmid, trivial⟩
      have N₂ := N₁
      clear F₁ N₁ hL hR hmid
      dsimp only [kstB] at F₂
      (repeat' (first | (k_unfold; (try dsimp only)) | (walk1 <;> (try dsimp only)) | (dsimp only; walk1) | ((with_reducible rename Post _ _ => hP'); (with_reducible refine Post.of hP' ?_))))
      refine Stop.of ?_
      rename Fr _ _ _ _ => Fx
      rename News _ _ _ _ => Nx
      rename On 3 => nt3
      refine exec_mid (fun m' news' => ∃ t, news' = news₁ ∧ m' "L" = some (.int (lo : Int) tl) ∧ m' "R" = some (.int ((lo + k : Nat) : Int) th) ∧ m' "mid" = some (.int ((lo + k1 : Nat) : Int) tmid) ∧ m' "shift" = some (.int ((n * k1 : Nat) : Int) t)) Fx Nx ?_ ?_
      · clear nt3
        (repeat' (first | (k_unfold; (try dsimp only)) | (walk1 <;> (try dsimp only)) | (dsimp only; walk1) | ((with_reducible rename Post _ _ => hP'); (with_reducible refine Post.of hP' ?_))))
        refine Stop.of ?_
        refine mul_int ?_ (IntMulOk.of_left (bits_lt (k := 64) (by omega) (Int.lt_of_lt_of_le (b := 100) (by omega) (by decide))))
        (repeat' (first | (k_unfold; (try dsimp only)) | (walk1 <;> (try dsimp only)) | (dsimp only; walk1) | ((with_reducible rename Post _ _ => hP'); (with_reducible refine Post.of hP' ?_))))
        exact NextMid.mk (by assumption) (by assumption) ⟨_, rfl, rfl, rfl, rfl, some_int (shift_eq lo k1 n)⟩
      · rintro m₁ news₂ h₂ tk₂ F₁ N₁ ⟨tsh, rfl, hL, hR, hmid, hsh⟩
        clear Fx Nx nt3
        obtain ⟨u2, F₂⟩ := fr_kstO [("L", .int (lo : Int) tl), ("R", .int ((lo + k : Nat) : Int) th), ("mid", .int ((lo + k1 : Nat) : Int) tmid), ("shift", .int ((n * k1 : Nat) : Int) tsh)] F₁ ⟨hL, hR, hmid, hsh, trivial⟩
        have N₂ := N₁
        clear F₁ N₁ hL hR hmid hsh
        dsimp only [kstB] at F₂
        (repeat' (first | (k_unfold; (try dsimp only)) | (walk1 <;> (try dsimp only)) | (dsimp only; walk1) | ((with_reducible rename Post _ _ => hP'); (with_reducible refine Post.of hP' ?_))))
        refine Stop.of ?_
        rename Fr _ _ _ _ => Fx
        rename News _ _ _ _ => Nx
        rw [show lo + k = lo + k1 + (k - k1) by omega]
        rw [show lo + k = lo + k1 + (k - k1) by omega] at Fx
        k_dflt (refine ih (k - k1) (by omega) _ _ _ _ _ _ _ _ _ _ _ _ _ _ _ _ _ _ _ _ _ B' Fx X' Nx T' rfl CH I ?_ ?_ ?_ ?_ ?_)
        · omega
        · omega
        · show dp + 1 + (k - k1) < recursionLimit
          omega
        · show un + 3 + 8 * (k - k1) < cLine
          omega
        · intro t₃ h₃ tk₃ F₃ N₃
          clear Fx Nx
          have hpb := part_bits (lo := lo + k1) (k := k - k1) hB hn64 (by omega)
          generalize hv2 : valD n ((ns.drop (lo + k1)).take (k - k1)) = v2 at *
          have hnk : n * k1 ≤ 64 * 64 := Nat.mul_le_mul hn64 (by omega)
          (repeat' (first | (k_unfold; (try dsimp only)) | (walk1 <;> (try dsimp only)) | (dsimp only; walk1) | ((with_reducible rename Post _ _ => hP'); (with_reducible refine Post.of hP' ?_))))
          refine Stop.of ?_
          refine lshift_int (by omega) (by omega) ?_
          (repeat' (first | (k_unfold; (try dsimp only)) | (walk1 <;> (try dsimp only)) | (dsimp only; walk1) | ((with_reducible rename Post _ _ => hP'); (with_reducible refine Post.of hP' ?_))))
          refine Stop.of ?_
          rename Fr _ _ _ _ => Fx
          rename News _ _ _ _ => Nx
          k_dflt (refine ih k1 (by omega) _ _ _ _ _ _ _ _ _ _ _ _ _ _ _ _ _ _ _ _ _ B' Fx X' Nx T' rfl CH I ?_ ?_ ?_ ?_ ?_)
          · omega
          · omega
          · show dp + 1 + k1 < recursionLimit
            omega
          · show un + 3 + 8 * k1 < cLine
            omega
          · intro t₄ h₄ tk₄ F₄ N₄
            clear Fx Nx
            (repeat' (first | (k_unfold; (try dsimp only)) | (walk1 <;> (try dsimp only)) | (dsimp only; walk1) | ((with_reducible rename Post _ _ => hP'); (with_reducible refine Post.of hP' ?_))))
            refine cb_retI (Q := Q) hret ?_ (by assumption) (by assumption)
            rw [part_split (k1 := k1) (k := k) (by omega) (by omega), hv2, Int.toNat_natCast]
theorem inner2_all {w : World} {p : Program} {loose : List Str} {mean : ExcName → Option Value} {mg mb : Fm} {f : Addr} {fo : Obj} {ca ci cnn c' ad : Addr} {n : Nat} {qual : Str} {vs : List Value} {ns : List Int} {e : Nat} {params : Arguments} {body : List Stmt} {scope : Scope} {doc pm ct : Value}
    (hp : nestParts (hd.heap_39 w.params) 42 = some (params, body, scope)) (hfo : fo = fnMade "inner" qual params body scope [("n", cnn), ("inner", ci), ("digits", ca)] doc pm c' ct)
    (hI : IntsAre vs ns) (hlen : ns.length ≤ 64) (hn64 : n ≤ 64) (hB : DB ns n) (k : Nat) : InnerSpec2 w p loose mean mg mb f fo ca ci cnn c' ad n qual vs ns e k :=
  Nat.strongRecOn k fun k ih => inner2_step hp hfo hI hlen hn64 hB k ih
end Mine

set_option maxHeartbeats 2000000
namespace Mine
theorem fill11 : PySem.Challenge.rw_re0095_01 = PySem.Challenge.rw_re0095_01 ∧ hd.heap_39 = hd.heap_39 := by
  k_fill
  exact ⟨rfl, rfl⟩
local macro_rules | `(tactic| walk_at "call ref") => `(tactic| refine Stop.mk ?_)

inductive T37 : Led → Prop
  | empty : T37 [(37, tabObj #[])]
  | full {c : Addr} {oc : Obj} {vs : Array Value} {t : Tok} (hd : oc.data = .fields vs) (hv : vs[1]? = some (.str "_digits2int.<locals>.inner" t)) (hc : 37 < c) : T37 [(37, tabObj #[rawInt (47 : Nat), rawInt (4 : Nat), .ref c]), (c, oc)]
section
variable {w : World} {p : Program} {loose : List Str} {mean : ExcName → Option Value} {mg mb : Fm} {dp un : Nat} {gd : Option (List Code)} {cn : Str} {cs : Scope} {a : Addr} {ccd : Value} {cl : List (Str × Addr)} {outer : List Env} {A₀ : Around} {base h₀ : Heap} {L : Addr} {m : Fm} {s : Shared} {Q E : Value → Shared → Prop} {news : Led}
theorem digits2int {n : Nat} {ad : Addr} {tn : Tok} {vs : List Value} {ns : List Int} {e : Nat} {t37 : Led}
   (B : Below A₀ base outer h₀) (F : Fr h₀ L s.heap m) (X : (hd.heap_39 w.params).In h₀) (hT : T37 t37) (N : News h₀ L s.heap (t37 ++ (ad, listOf vs.toArray e) :: news)) (T : Top p loose mean mg mb h₀) (hk : cs.kind = .function)
   (C37 : CodeHd base 41 37) (h37 : ∀ p ∈ news, p.1 ≠ 37) (had : @Ne Nat ad 37) (hIv : IntsAre vs ns) (hl : ns.length ≤ 64) (hn64 : n ≤ 64) (hB : DB ns n) (hdp : dp + 100 < recursionLimit) (hu : un + 900 < cLine)
   (hret : ∀ (t37' : Led) (t : Tok) (h' : Heap) (tk' : Nat), T37 t37' → Fr h₀ L h' m → News h₀ L h' (t37' ++ (ad, listOf vs.toArray e) :: news) → Q (.int (valD n ns) t) { s with heap := h', toks := tk' }) :
   wpAny (model P0 w) (ktrTop dp un gd cn cs L a ccd cl outer) (call (.ref 42) [.ref ad, .int (n : Int) tn]) Q E s := by
  cases hT with
  | empty =>
    rw [List.singleton_append] at N
    refine wpAny_call ?_
    k_dflt (refine' code_defC ?k1 ?k2 ?k3 ?k4 ?k5 ?kA ?kF ?kK ?k6 ?k7 ?k8 ?k9 ?kB ?kD ?_ ?c2 ?c3 ?c4; (case kA => exact rfl); (case kF => exact rfl); (case kK => assumption); (case k1 => k_asm); (case k2 => k_asm); (case k3 => k_asm); (case k4 => k_asm); (case k5 => k_asm); (case k6 => k_is); (case k7 => k_is); (case k8 => ktr_room); (case k9 => exact BindsTo.of_eq rfl); (case kB => exact rfl); (case kD => decide +kernel); (case c2 => exact rfl); (case c3 => exact rfl); (case c4 => exact rfl); k_whole; intro g' L' _ _ _ FG F' N' Y' B' X' T' l1; (try k_lt l1); k_cells Y'; (try simp only [List.cons_append, List.nil_append] at N'); (try dsimp only); (try k_lift B'); (try k_fold))
    refine abs_all fun QF hQF => ?_
    rename _ ∧ _ ∧ AllLt _ _ => hl0
    obtain ⟨hl0, hlc, hl1⟩ := hl0
    (repeat' (first | (k_unfold; (try dsimp only)) | (walk1 <;> (try dsimp only)) | (dsimp only; walk1) | ((with_reducible rename Post _ _ => hP'); (with_reducible refine Post.of hP' ?_))))
    · refine Stop.of ?_
      rename Fr _ _ _ _ => Fx
      rename News _ _ _ _ => Nx
      obtain ⟨fo, hfo⟩ := head_is Nx
      rw [← hfo] at Nx
      rename_i _ _ o1 o2 o3 d1 d2 d3 f' c' oc vsc tc ct dc _ _ dc1 dc2 lc1 lc2 _ oF dF hne
      have dc2' : vsc[1]? = some (.str "_digits2int.<locals>.inner" tc) := dc2
      have hcc : @LT.lt Nat instLTNat 37 c' := lc1.2.2.2.1
      have dN : o2.data = Data.cell (some (.int (n : Int) tn)) := d2
      have dA : o3.data = Data.cell (some (.ref ad)) := d3
      have hS := inner2_all (p := p) (loose := loose) (mean := mean) (mg := mg) (mb := mb) (ad := ad) (n := n) (f := f') (e := e) (show nestParts (hd.heap_39 w.params) 42 = some (_, _, _) from rfl) hfo hIv hl hn64 hB ns.length
      have e0 : ((ns.length : Nat) : Int) = ((0 + ns.length : Nat) : Int) := by omega
      rw [e0]
      k_dflt (refine hS _ _ _ _ _ _ _ _ _ _ _ _ _ _ _ _ _ _ 0 _ _ B' Fx X' Nx T' rfl C37 ?_ ?_ ?_ ?_ ?_ ?_)
      · exact ⟨.head _, ⟨o3, by simp, dA⟩, ⟨oF, by simp, dF⟩, ⟨o2, tn, by simp, dN⟩, ⟨oc, vsc, tc, by simp, dc1, dc2⟩, by simp⟩
      · omega
      · omega
      · show dp + 1 + ns.length < recursionLimit
        omega
      · show un + 3 + 8 * ns.length < cLine
        omega
      · intro t₃ h₃ tk₃ F₃ N₃
        clear Fx Nx hS
        rw [List.drop_zero, List.take_length]
        (repeat' (first | (k_unfold; (try dsimp only)) | (walk1 <;> (try dsimp only)) | (dsimp only; walk1) | ((with_reducible rename Post _ _ => hP'); (with_reducible refine Post.of hP' ?_))))
        refine hret [(37, tabObj #[rawInt (47 : Nat), rawInt (4 : Nat), .ref c']), (c', oc)] _ _ _ ?_ (by assumption) (news_sub (by assumption) ?_)
        · exact .full dc1 dc2' hcc
        · intro p hp
          simp only [List.cons_append, List.nil_append, List.mem_cons] at hp ⊢
          rcases hp with h | h | h | h <;> simp [h]
    · rename_i _ _ o1 o2 o3 d1 d2 d3 f' c' oc vsc tc ct dc _ _ dc1 dc2 lc1 lc2 _ oF _ _ dF hne kF kN _ _
      have dc2' : vsc[1]? = some (.str "_digits2int.<locals>.inner" tc) := dc2
      have hcc : @LT.lt Nat instLTNat 37 c' := lc1.2.2.2.1
      have hnil : ns = [] := List.eq_nil_of_length_eq_zero (by omega)
      refine cb_retI (Q := Q) (news := [(37, tabObj #[rawInt (47 : Nat), rawInt (4 : Nat), .ref c']), (c', oc)] ++ (ad, listOf vs.toArray e) :: news) (x := valD n ns) (fun t h' tk' F9 N9 => hret [(37, tabObj #[rawInt (47 : Nat), rawInt (4 : Nat), .ref c']), (c', oc)] t h' tk' (.full dc1 dc2' hcc) F9 N9) (by rw [hnil]; rfl) kF (news_sub kN ?_)
      intro p hp
      simp only [List.cons_append, List.nil_append, List.mem_cons] at hp ⊢
      rcases hp with h | h | h | h <;> simp [h]
  | @full c oc vsc tc hcd hv hc =>
    rw [List.cons_append, List.singleton_append] at N
    refine wpAny_call ?_
    k_dflt (refine' code_defC ?k1 ?k2 ?k3 ?k4 ?k5 ?kA ?kF ?kK ?k6 ?k7 ?k8 ?k9 ?kB ?kD ?_ ?c2 ?c3 ?c4; (case kA => exact rfl); (case kF => exact rfl); (case kK => assumption); (case k1 => k_asm); (case k2 => k_asm); (case k3 => k_asm); (case k4 => k_asm); (case k5 => k_asm); (case k6 => k_is); (case k7 => k_is); (case k8 => ktr_room); (case k9 => exact BindsTo.of_eq rfl); (case kB => exact rfl); (case kD => decide +kernel); (case c2 => exact rfl); (case c3 => exact rfl); (case c4 => exact rfl); k_whole; intro g' L' _ _ _ FG F' N' Y' B' X' T' l1; (try k_lt l1); k_cells Y'; (try simp only [List.cons_append, List.nil_append] at N'); (try dsimp only); (try k_lift B'); (try k_fold))
    refine abs_all fun QF hQF => ?_
    rename _ ∧ _ ∧ _ ∧ AllLt _ _ => hl0
    obtain ⟨hl0, hlcc, hlc, hl1⟩ := hl0
    (repeat' (first | (k_unfold; (try dsimp only)) | (walk1 <;> (try dsimp only)) | (dsimp only; walk1) | ((with_reducible rename Post _ _ => hP'); (with_reducible refine Post.of hP' ?_))))
    · refine Stop.of ?_
      rename Fr _ _ _ _ => Fx
      rename News _ _ _ _ => Nx
      obtain ⟨fo, hfo⟩ := head_is Nx
      rw [← hfo] at Nx
      rename_i _ _ o1 o2 o3 d1 d2 d3 f' ct dc _ _ lf _ oF dF hne
      have dN : o2.data = Data.cell (some (.int (n : Int) tn)) := d2
      have dA : o3.data = Data.cell (some (.ref ad)) := d3
      have hS := inner2_all (p := p) (loose := loose) (mean := mean) (mg := mg) (mb := mb) (ad := ad) (n := n) (f := f') (e := e) (show nestParts (hd.heap_39 w.params) 42 = some (_, _, _) from rfl) hfo hIv hl hn64 hB ns.length
      have e0 : ((ns.length : Nat) : Int) = ((0 + ns.length : Nat) : Int) := by omega
      rw [e0]
      k_dflt (refine hS _ _ _ _ _ _ _ _ _ _ _ _ _ _ _ _ _ _ 0 _ _ B' Fx X' Nx T' rfl C37 ?_ ?_ ?_ ?_ ?_ ?_)
      · exact ⟨.head _, ⟨o3, by simp, dA⟩, ⟨oF, by simp, dF⟩, ⟨o2, tn, by simp, dN⟩, ⟨oc, vsc, tc, by simp, hcd, hv⟩, by simp⟩
      · omega
      · omega
      · show dp + 1 + ns.length < recursionLimit
        omega
      · show un + 3 + 8 * ns.length < cLine
        omega
      · intro t₃ h₃ tk₃ F₃ N₃
        clear Fx Nx hS
        rw [List.drop_zero, List.take_length]
        (repeat' (first | (k_unfold; (try dsimp only)) | (walk1 <;> (try dsimp only)) | (dsimp only; walk1) | ((with_reducible rename Post _ _ => hP'); (with_reducible refine Post.of hP' ?_))))
        refine hret [(37, tabObj #[rawInt (47 : Nat), rawInt (4 : Nat), .ref c]), (c, oc)] _ _ _ ?_ (by assumption) (news_sub (by assumption) ?_)
        · exact .full hcd hv hc
        · intro p hp
          simp only [List.cons_append, List.nil_append, List.mem_cons] at hp ⊢
          rcases hp with h | h | h | h <;> simp [h]
    · rename_i _ _ o1 o2 o3 d1 d2 d3 f' ct dc _ _ lf _ oF _ _ dF hne kF kN _ _
      have hnil : ns = [] := List.eq_nil_of_length_eq_zero (by omega)
      refine cb_retI (Q := Q) (news := [(37, tabObj #[rawInt (47 : Nat), rawInt (4 : Nat), .ref c]), (c, oc)] ++ (ad, listOf vs.toArray e) :: news) (x := valD n ns) (fun t h' tk' F9 N9 => hret [(37, tabObj #[rawInt (47 : Nat), rawInt (4 : Nat), .ref c]), (c, oc)] t h' tk' (.full hcd hv hc) F9 N9) (by rw [hnil]; rfl) kF (news_sub kN ?_)
      intro p hp
      simp only [List.cons_append, List.nil_append, List.mem_cons] at hp ⊢
      rcases hp with h | h | h | h <;> simp [h]
end
end Mine

set_option maxHeartbeats 2000000
namespace Mine
theorem fill12 : PySem.Challenge.rw_re0095_01 = PySem.Challenge.rw_re0095_01 ∧ hd.heap_39 = hd.heap_39 := by
  k_fill
  exact ⟨rfl, rfl⟩
section
variable {prog : Program} {w : World} {A : Around} {E : Value → Shared → Prop} {Q : Flow → Shared → Prop} {s : Shared} {env : Env} {h₀ : Heap} {x : Str} {body : List Stmt}
theorem loop_rev {l I : Addr} {vs : List Value} {e : Nat} {m : Fm} {news : Led} (J : Nat → Fm → Led → Prop)
    (hh : A.handled = none) (hm : (l, listOf vs.toArray e) ∈ news) (F : Fr h₀ env.locals s.heap m) (N : News h₀ env.locals s.heap ((I, revObj l ((vs.length : Int) - 1)) :: news)) (hnI : ∀ p ∈ news, p.1 ≠ I) (hJ : J 0 m news)
    (turn : ∀ i v m₁ news₁ oI h tk, i < vs.length → vs[vs.length - 1 - i]? = some v → J i m₁ news₁ → (l, listOf vs.toArray e) ∈ news₁ → (∀ p ∈ news₁, p.1 ≠ I) → Fr h₀ env.locals h (fun y => if y = x then some v else m₁ y) → News h₀ env.locals h ((I, oI) :: news₁) →
      wpAny (model prog w) A (execs body env) (TurnEnd h₀ env.locals I oI [(l, listOf vs.toArray e)] (J (i + 1)) s Q) E { s with heap := h, toks := tk })
    (done : ∀ m₁ news₁ h tk, J vs.length m₁ news₁ → (l, listOf vs.toArray e) ∈ news₁ → Fr h₀ env.locals h m₁ → News h₀ env.locals h news₁ → Q .next { s with heap := h, toks := tk }) :
    wpAny (model prog w) A (pyIter (.ref I)) (fun it s₂ => LoopAtV prog w A h₀ env x body Q E it s₂) E s := by
  have hIx := N _ (List.mem_cons_self ..)
  have hax := N _ (List.mem_cons_of_mem _ hm)
  have hl : s.heap.IsList l vs.toArray := ⟨_, hax.1, rfl, e, rfl⟩
  have hne : l ≠ I := hnI _ hm
  have hit : s.heap.IsRevIter I l ((vs.length : Int) - 1) := ⟨_, hIx.1, rfl, rfl⟩
  refine wpAny_pyIter_revIter hit ?_
  have W := Walks.listRev (prog := prog) (w := w) hh I l hne vs.toArray
  have hlen : vs.toArray.size = vs.length := by simp
  rw [hlen] at W
  refine loop_gen J [(l, listOf vs.toArray e)] W ?_ (fun i h st => by obtain ⟨o, e, _⟩ := st.2.1; exact ⟨o, e⟩) ?_ hIx.2.2 ⟨Nat.zero_le _, by simpa using hit, hl⟩ F (fun p hp => N p (List.mem_cons_of_mem _ hp)) hnI ?_ hJ ?_ ?_
  · intro b hb hne'
    rcases List.mem_cons.mp hb with rfl | hb
    · exact absurd rfl hne'
    · rw [List.mem_singleton.mp hb]; exact ⟨_, .head _⟩
  · intro hm'
    rcases List.mem_cons.mp hm' with e' | hm'
    · exact hIx.2.1 e'.symm
    · exact hax.2.1 (List.mem_singleton.mp hm').symm
  · intro p hp; rw [List.mem_singleton.mp hp]; exact hm
  · intro i v m₁ news₁ oI h tk hi hP hJ₁ hk hnI F₁ N₁ _
    exact turn i v m₁ news₁ oI h tk hi (by simpa using hP) hJ₁ (hk _ (.head _)) hnI F₁ N₁
  · intro m₁ news₁ h tk hJ₁ hk F₁ N₁
    exact done m₁ news₁ h tk hJ₁ (hk _ (.head _)) F₁ N₁
end
local macro_rules | `(tactic| walk_at $s:str) => do if ["call ref", "exec For Name Call cons nil", "call builtin:list.append", "call builtin:list.reverse", "pyIter ref", "binaryOp LShift int int"].contains s.getString then `(tactic| refine Stop.mk ?_) else Lean.Macro.throwUnsupported
structure AB (x b : Int) : Prop where
  h0 : 0 ≤ x
  h62 : x < 2 ^ 62
  b0 : 0 < b
  b30 : b < 1073741824
theorem t30_lt {t : Led} (h : T30 t) : ∀ p ∈ t, @LE.le Nat _ 30 p.1 ∧ @Ne Nat p.1 37 := by
  cases h with
  | empty => intro p hp; rw [List.mem_singleton.mp hp]; exact ⟨Nat.le_refl _, by decide⟩
  | full _ _ hc =>
    intro p hp
    rcases List.mem_cons.mp hp with rfl | hp
    · exact ⟨Nat.le_refl _, by dsimp only; omega⟩
    · rw [List.mem_singleton.mp hp]
      have hc' : @LT.lt Nat _ 37 _ := hc
      exact ⟨by dsimp only; omega, by dsimp only; omega⟩
theorem t37_lt {t : Led} (h : T37 t) : (∀ p ∈ t, @LE.le Nat _ 37 p.1) ∧ ∃ o, (37, o) ∈ t := by
  cases h with
  | empty => exact ⟨fun p hp => by rw [List.mem_singleton.mp hp]; exact Nat.le_refl _, _, .head _⟩
  | full _ _ hc =>
    refine ⟨fun p hp => ?_, _, .head _⟩
    rcases List.mem_cons.mp hp with rfl | hp
    · exact Nat.le_refl _
    · rw [List.mem_singleton.mp hp]
      have hc' : @LT.lt Nat _ 37 _ := hc
      exact Nat.le_of_lt hc'
/-- long division: the quotient's digits so far (the highest first) and the rest -/
structure QR (ds : List Int) (b : Int) (nn i : Nat) (qns : List Int) (r : Int) : Prop where
  len : qns.length = i
  r0 : 0 ≤ r
  rb : r < b
  val : valD nn qns.reverse * b + r = valD nn (ds.drop (ds.length - i))
  db : ∀ d ∈ qns, 0 ≤ d ∧ d < 2 ^ nn
theorem QR.start (ds : List Int) {b : Int} (nn : Nat) (hb : 0 < b) : QR ds b nn 0 [] 0 := ⟨rfl, Int.le_refl _, hb, by simp [valD], fun _ h => nomatch h⟩
theorem QR.step {ds : List Int} {b : Int} {nn i : Nat} {qns : List Int} {r d : Int} (h : QR ds b nn i qns r) (hi : i < ds.length) (hd : ds[ds.length - 1 - i]? = some d) (hd0 : 0 ≤ d) (hdn : d < 2 ^ nn) :
    QR ds b nn (i + 1) (qns ++ [(r * 2 ^ nn + d).fdiv b]) ((r * 2 ^ nn + d).fmod b) := by
  have hb : 0 < b := Int.lt_of_le_of_lt h.r0 h.rb
  have hp := pow_pos' nn
  have hr2 : 0 ≤ r * 2 ^ nn := Int.mul_nonneg h.r0 (Int.le_of_lt hp)
  have ht0 : 0 ≤ r * 2 ^ nn + d := by omega
  have e1 : (r * 2 ^ nn + d).fdiv b = (r * 2 ^ nn + d) / b := Int.fdiv_eq_ediv_of_nonneg _ (Int.le_of_lt hb)
  have e2 : (r * 2 ^ nn + d).fmod b = (r * 2 ^ nn + d) % b := Int.fmod_eq_emod_of_nonneg _ (Int.le_of_lt hb)
  rw [e1, e2]
  refine ⟨by rw [List.length_append, h.len]; rfl, Int.emod_nonneg _ (Int.ne_of_gt hb), Int.emod_lt_of_pos _ hb, ?_, ?_⟩
  · obtain ⟨hlt, hde⟩ := List.getElem?_eq_some_iff.mp hd
    have e3 : ds.drop (ds.length - (i + 1)) = d :: ds.drop (ds.length - i) := by
      have e4 : ds.length - (i + 1) = ds.length - 1 - i := by omega
      have e5 : ds.length - 1 - i + 1 = ds.length - i := by omega
      rw [e4, List.drop_eq_getElem_cons hlt, hde, e5]
    rw [e3, List.reverse_append, List.reverse_singleton, List.singleton_append, valD, valD, ← h.val]
    have e6 := Int.mul_ediv_add_emod (r * 2 ^ nn + d) b
    have e7 : (2 : Int) ^ nn * (valD nn qns.reverse * b + r) = 2 ^ nn * valD nn qns.reverse * b + r * 2 ^ nn := by
      rw [Int.mul_add, Int.mul_assoc, Int.mul_comm r]
    have e8 : ((r * 2 ^ nn + d) / b + 2 ^ nn * valD nn qns.reverse) * b = b * ((r * 2 ^ nn + d) / b) + 2 ^ nn * valD nn qns.reverse * b := by
      rw [Int.add_mul, Int.mul_comm b]
    rw [e7, e8]
    omega
  · intro x hx
    rcases List.mem_append.mp hx with hx | hx
    · exact h.db x hx
    · rw [List.mem_singleton.mp hx]
      refine ⟨Int.ediv_nonneg ht0 (Int.le_of_lt hb), ?_⟩
      refine Int.ediv_lt_of_lt_mul hb ?_
      have h1 : (r + 1) * 2 ^ nn ≤ b * 2 ^ nn := Int.mul_le_mul_of_nonneg_right (by have := h.rb; omega) (Int.le_of_lt hp)
      rw [Int.add_mul, Int.one_mul, Int.mul_comm b] at h1
      omega
inductive VJ (ds : List Int) (b : Int) (nn : Nat) (QD D : Addr) (vs : List Value) (e : Nat) (t30' t37 news : Led) (tb : Tok) (i : Nat) (m' : Fm) (news' : Led) : Prop
  | mk (qvs : List Value) (qns : List Int) (r : Int) (t : Tok) (e' : Nat) (h0 : news' = (QD, listOf qvs.toArray e') :: (D, listOf vs.toArray e) :: (t30' ++ (t37 ++ news))) (h1 : IntsAre qvs qns) (h2 : QR ds b nn i qns r) (h3 : m' "b" = some (.int b tb)) (h4 : (∃ t, m' "n" = some (.int (nn : Int) t))) (h5 : m' "r" = some (.int r t)) (h6 : m' "q_digits" = some (.ref QD)) : VJ ds b nn QD D vs e t30' t37 news tb i m' news'
section
variable {w : World} {p : Program} {loose : List Str} {mean : ExcName → Option Value} {mg mb : Fm} {dp un : Nat} {gd : Option (List Code)} {cn : Str} {cs : Scope} {a : Addr} {ccd : Value} {cl : List (Str × Addr)} {outer : List Env} {A₀ : Around} {base h₀ : Heap} {L : Addr} {m : Fm} {s : Shared} {Q E : Value → Shared → Prop} {news : Led}
theorem divmod_pos {x b : Int} {tx tb : Tok} {t30 t37 : Led}
   (B : Below A₀ base outer h₀) (F : Fr h₀ L s.heap m) (X : (hd.heap_39 w.params).In h₀) (hT30 : T30 t30) (hT37 : T37 t37) (N : News h₀ L s.heap (t30 ++ (t37 ++ news))) (T : Top p loose mean mg mb h₀) (hk : cs.kind = .function)
   (C30 : CodeHd base 34 30) (C37 : CodeHd base 41 37) (hi : ∀ p ∈ news, @Ne Nat p.1 30 ∧ @Ne Nat p.1 37) (hAB : AB x b) (hdp : dp + 110 < recursionLimit) (hu : un + 950 < cLine)
   (hret : ∀ (t30' t37' : Led) (r : Addr) (t1 t2 : Tok) (h' : Heap) (tk' : Nat), T30 t30' → T37 t37' → Fr h₀ L h' m → News h₀ L h' ((r, pairOf (.int (x / b) t1) (.int (x % b) t2)) :: (t30' ++ (t37' ++ news))) → (∀ p ∈ t30' ++ (t37' ++ news), p.1 ≠ r) → @LT.lt Nat _ 37 r → Q (.ref r) { s with heap := h', toks := tk' }) :
   wpAny (model P0 w) (ktrTop dp un gd cn cs L a ccd cl outer) (call (.ref 49) [.int x tx, .int b tb]) Q E s := by
  refine wpAny_call ?_
  k_dflt cell_enter
  refine abs_all fun QF hQF => ?_
  (repeat' (first | (k_unfold; (try dsimp only)) | (walk1 <;> (try dsimp only)) | (dsimp only; walk1) | ((with_reducible rename Post _ _ => hP'); (with_reducible refine Post.of hP' ?_))))
  refine Stop.of ?_
  rename Fr _ _ _ _ => Fx
  rename News _ _ _ _ => Nx
  obtain ⟨h37le, o37, h37m⟩ := t37_lt hT37
  have hXN : XN x (Builtin.Int.intBits b) := by
    have hb := bits_lt (k := 30) (Int.le_of_lt hAB.b0) (by have := hAB.b30; simpa using this)
    refine ⟨hAB.h0, hAB.h62, ?_, by omega⟩
    have h1 := lt_bits (Int.le_of_lt hAB.b0)
    rcases Nat.eq_zero_or_pos (Builtin.Int.intBits b) with h | h
    · rw [h] at h1
      have := hAB.b0
      simp at h1
      omega
    · exact h
  have hbn : b < 2 ^ (Builtin.Int.intBits b) := lt_bits (Int.le_of_lt hAB.b0)
  have hHid : Stop (b < 2 ^ (Builtin.Int.intBits b)) := hbn
  clear hbn
  generalize hnn : Builtin.Int.intBits b = nn at *
  have hn64 := hXN.n64
  have hn0 := hXN.n0
  k_dflt (refine int2digits (by assumption) Fx (by assumption) hT30 Nx (by assumption) rfl C30 ?_ (List.mem_append_left _ h37m) hXN ?_ ?_ ?_)
  · intro p hp
    rcases List.mem_append.mp hp with hp | hp
    · refine neN ?_
      have : @LE.le Nat _ 37 p.1 := h37le p hp
      omega
    · exact (hi p hp).1
  · show dp + 1 + 100 < recursionLimit
    omega
  · show un + 3 + 900 < cLine
    omega
  intro t30' D ds vs e h₁ tk₁ hT30' hIv hdl hdd hval F₁ N₁ hneD hD37
  clear Fx Nx
  obtain ⟨u, F₂⟩ := fr_kstO [("a", .int x tx), ("b", .int b tb), ("n", .int (nn : Int) _)] F₁ ⟨rfl, rfl, rfl, trivial⟩
  have N₂ := N₁
  clear F₁ N₁
  dsimp only [kstB] at F₂
  (repeat' (first | (k_unfold; (try dsimp only)) | (walk1 <;> (try dsimp only)) | (dsimp only; walk1) | ((with_reducible rename Post _ _ => hP'); (with_reducible refine Post.of hP' ?_))))
  refine Stop.of ?_
  rename Fr _ _ _ _ => Fx
  rename News _ _ _ _ => Nx
  rename_i QD _ lQ _
  obtain ⟨lQ1, lQ2⟩ := lQ
  have hneQ : ∀ p ∈ t30' ++ (t37 ++ news), p.1 ≠ QD := allNe_of lQ2 (Nat.le_refl _)
  refine For_invVF Fx rfl rfl ?_
  (repeat' (first | (k_unfold; (try dsimp only)) | (walk1 <;> (try dsimp only)) | (dsimp only; walk1) | ((with_reducible rename Post _ _ => hP'); (with_reducible refine Post.of hP' ?_))))
  refine Stop.of ?_
  rename Fr _ _ _ _ => Fx
  rename News _ _ _ _ => Nx
  rename_i I₀ _ lI
  obtain ⟨lI1, lI2, lI3⟩ := lI
  have hl9 : vs.length = ds.length := hIv.length
  refine loop_rev (VJ ds b nn QD D vs e t30' t37 news tb)
    rfl (.tail _ (.head _)) Fx Nx ?_ ?_ ?_ ?_
  · intro p hp
    refine neN ?_
    rcases List.mem_cons.mp hp with rfl | hp
    · show @Ne Nat QD I₀; omega
    · rcases List.mem_cons.mp hp with rfl | hp
      · show @Ne Nat D I₀; omega
      · exact allNe_of lI3 (Nat.le_refl _) p hp
  · exact ⟨[], [], 0, _, 0, rfl, .nil, QR.start ds nn hAB.b0, rfl, ⟨_, rfl⟩, rfl, rfl⟩
  · rintro i v m₁ news₁ oI h₂ tk₂ hi2 hvi ⟨qvs, qns, r, tr, e', rfl, hIq, hQR, hb, ⟨tn, hn⟩, hr, hq⟩ hDm hnI F₁ N₁
    clear Fx Nx
    obtain ⟨d, hd⟩ : ∃ d, ds[ds.length - 1 - i]? = some d := ⟨_, List.getElem?_eq_getElem (by omega)⟩
    obtain ⟨td, htd⟩ := hIv.get _ _ hd
    rw [hl9, htd] at hvi
    cases hvi
    have hdm := hdd d (List.mem_of_getElem? hd)
    have hQR' := hQR.step (by omega) hd hdm.1 hdm.2
    have hr0 := hQR.r0
    have hrb := hQR.rb
    have hb30 := hAB.b30
    have hb0 := hAB.b0
    have hnIQ : @Ne Nat QD I₀ := hnI _ (.head _)
    have hDQ : @Ne Nat D QD := by omega
    have hbits : (Builtin.Int.intBits (r * 2 ^ nn + d) : Int) - (nn : Int) ≤ 4000 := by
      have hp := pow_pos' nn
      have h1 : 0 ≤ r * 2 ^ nn := Int.mul_nonneg hr0 (Int.le_of_lt hp)
      have e30 : (2 : Int) ^ 30 = 1073741824 := by decide
      have h2 : (r + 1) * 2 ^ nn ≤ 2 ^ 30 * 2 ^ nn := Int.mul_le_mul_of_nonneg_right (by omega) (Int.le_of_lt hp)
      rw [Int.add_mul, Int.one_mul, ← Int.pow_add] at h2
      have h3 := bits_lt (x := r * 2 ^ nn + d) (k := 30 + nn) (by omega) (by omega)
      omega
    clear hdm
    obtain ⟨u2, F₂⟩ := fr_kstO [("a_digit", .int d td), ("b", .int b tb), ("n", .int (nn : Int) tn), ("r", .int r tr), ("q_digits", .ref QD)] F₁ ⟨rfl, hb, hn, hr, hq, trivial⟩
    have N₂ := N₁
    clear F₁ N₁ hb hn hr hq
    dsimp only [kstB] at F₂
    refine abs_all fun QT1 hQT1 => ?_
    (repeat' (first | (k_unfold; (try dsimp only)) | (walk1 <;> (try dsimp only)) | (dsimp only; walk1) | ((with_reducible rename Post _ _ => hP'); (with_reducible refine Post.of hP' ?_))))
    refine Stop.of ?_
    have e64 : 2 ^ 64 = 18446744073709551616 := by decide
    refine lshift_int_small (by omega) (by omega) (by omega) ?_
    rw [Int.toNat_natCast]
    (repeat' (first | (k_unfold; (try dsimp only)) | (walk1 <;> (try dsimp only)) | (dsimp only; walk1) | ((with_reducible rename Post _ _ => hP'); (with_reducible refine Post.of hP' ?_))))
    refine Stop.of ?_
    rename Fr _ _ _ _ => Fx
    rename News _ _ _ _ => Nx
    k_dflt (refine div2n1n (by assumption) Fx (by assumption) Nx (by assumption) rfl hbits hb0 hb30 ?_ ?_ ?_)
    · show dp + 1 + 1 < recursionLimit
      omega
    · show un + 3 + 8 < cLine
      omega
    intro rr t1 t2 h₃ tk₃ F₃ N₃ lt
    clear Fx Nx
    k_lt lt
    obtain ⟨lt1, lt2, lt3, lt4⟩ := lt
    (repeat' (first | (k_unfold; (try dsimp only)) | (walk1 <;> (try dsimp only)) | (dsimp only; walk1) | ((with_reducible rename Post _ _ => hP'); (with_reducible refine Post.of hP' ?_))))
    refine Stop.of ?_
    rename Fr _ _ _ _ => Fx
    rename News _ _ _ _ => Nx
    have hql : qvs.toArray.size ≤ sizeLine := by
      have := hIq.length
      have h2 := hQR.len
      rw [List.size_toArray, sizeLine_eq]
      omega
    refine append_K Fx Nx (Upd.tail (show @Ne Nat rr QD by omega) (Upd.tail (show @Ne Nat I₀ QD by omega) (Upd.head ?_))) ?_ hql
    · intro p hp
      rcases List.mem_cons.mp hp with rfl | hp
      · exact hDQ
      · exact hneQ p hp
    intro h₄ F₄ N₄
    clear Fx Nx
    (repeat' (first | (k_unfold; (try dsimp only)) | (walk1 <;> (try dsimp only)) | (dsimp only; walk1) | ((with_reducible rename Post _ _ => hP'); (with_reducible refine Post.of hP' ?_))))
    refine TurnEnd.next ((QD, listOf (qvs ++ [Value.int ((r * 2 ^ nn + d).fdiv b) t1]).toArray (e' + 1)) :: (D, listOf vs.toArray e) :: (t30' ++ (t37 ++ news))) (by assumption) (news_sub (by assumption) ?_) ?_ ?_ ?_
    · intro p hp
      simp only [List.mem_cons, List.push_toArray] at hp ⊢
      rcases hp with h | h | h | h <;> simp [h]
    · intro p hp
      rcases List.mem_cons.mp hp with rfl | hp
      · exact hnIQ
      · exact hnI p (.tail _ hp)
    · intro p hp
      rw [List.mem_singleton.mp hp]
      exact .tail _ (.head _)
    · exact ⟨_, _, _, _, _, rfl, hIq.append (.cons _ _ .nil), hQR', rfl, ⟨_, rfl⟩, rfl, rfl⟩
  · rintro m₁ news₁ h₂ tk₂ ⟨qvs, qns, r, tr, e', rfl, hIq, hQR, hb, ⟨tn, hn⟩, hr, hq⟩ hDm F₁ N₁
    clear Fx Nx
    obtain ⟨u2, F₂⟩ := fr_kstO [("b", .int b tb), ("n", .int (nn : Int) tn), ("r", .int r tr), ("q_digits", .ref QD)] F₁ ⟨hb, hn, hr, hq, trivial⟩
    have N₂ := N₁
    clear F₁ N₁ hb hn hr hq
    dsimp only [kstB] at F₂
    (repeat' (first | (k_unfold; (try dsimp only)) | (walk1 <;> (try dsimp only)) | (dsimp only; walk1) | ((with_reducible rename Post _ _ => hP'); (with_reducible refine Post.of hP' ?_))))
    refine Stop.of ?_
    rename Fr _ _ _ _ => Fx
    rename News _ _ _ _ => Nx
    have hql : qvs.length ≤ 64 := by
      have := hIq.length
      have h2 := hQR.len
      omega
    refine kl_reverse (l := qvs.reverse) Fx Nx (by simp) (Upd.head ?_) (by rw [sizeLine_eq]; simp; omega) ?_
    · intro p hp
      rcases List.mem_cons.mp hp with rfl | hp
      · show @Ne Nat D QD; omega
      · exact hneQ p hp
    intro h₃ F₃ N₃
    clear Fx Nx
    (repeat' (first | (k_unfold; (try dsimp only)) | (walk1 <;> (try dsimp only)) | (dsimp only; walk1) | ((with_reducible rename Post _ _ => hP'); (with_reducible refine Post.of hP' ?_))))
    refine Stop.of ?_
    rename Fr _ _ _ _ => Fx
    rename News _ _ _ _ => Nx
    have Ny := news_sub (b := t37 ++ (QD, listOf qvs.reverse.toArray e') :: ((D, listOf vs.toArray e) :: (t30' ++ news))) Nx (by
      intro p hp
      simp only [List.mem_append, List.mem_cons] at hp ⊢
      rcases hp with h | h | h | h | h <;> simp [h])
    have h30' := t30_lt hT30'
    k_dflt (refine digits2int (by assumption) Fx (by assumption) hT37 Ny (by assumption) rfl C37 ?_ ?_ hIq.reverse ?_ hn64 ⟨fun d hd => hQR.db d (List.mem_reverse.mp hd)⟩ ?_ ?_ ?_)
    · intro p hp
      refine neN ?_
      rcases List.mem_cons.mp hp with rfl | hp
      · show @Ne Nat D 37; have : @LT.lt Nat _ 37 D := hD37; omega
      · rcases List.mem_append.mp hp with hp | hp
        · exact (h30' p hp).2
        · exact (hi p hp).2
    · have : @LT.lt Nat _ 37 D := hD37
      omega
    · rw [List.length_reverse]
      have := hQR.len
      omega
    · show dp + 1 + 100 < recursionLimit
      omega
    · show un + 3 + 900 < cLine
      omega
    intro t37' tq h₄ tk₄ hT37' F₄ N₄
    clear Fx Nx Ny
    (repeat' (first | (k_unfold; (try dsimp only)) | (walk1 <;> (try dsimp only)) | (dsimp only; walk1) | ((with_reducible rename Post _ _ => hP'); (with_reducible refine Post.of hP' ?_))))
    rename_i D9 _ _ _ l9 kF kN _ _
    have hq : x / b = valD nn qns.reverse ∧ x % b = r := by
      refine (Int.ediv_emod_unique hAB.b0).mpr ⟨?_, hQR.r0, hQR.rb⟩
      have h1 := hQR.val
      rw [hl9, Nat.sub_self, List.drop_zero, hval] at h1
      rw [Int.mul_comm, Int.add_comm]
      exact h1
    have hret' := hret t30' t37' D9 tq tr
    rw [hq.1, hq.2] at hret'
    refine hret' _ _ hT30' hT37' kF (news_sub kN ?_) ?_ ?_
    · intro p hp
      simp only [List.mem_append, List.mem_cons] at hp ⊢
      rcases hp with h | h | h | h <;> simp [h]
    · intro p hp
      refine Nat.ne_of_lt (l9 p ?_)
      simp only [List.mem_append, List.mem_cons] at hp ⊢
      rcases hp with h | h | h <;> simp [h]
    · have h1 : @LT.lt Nat _ 37 D := hD37
      have h2 : @LT.lt Nat _ D D9 := l9 (D, listOf vs.toArray e) (by simp)
      omega
end
end Mine

set_option maxHeartbeats 2000000
namespace Mine
theorem fill13 : PySem.Challenge.rw_re0095_01 = PySem.Challenge.rw_re0095_01 ∧ hd.heap_39 = hd.heap_39 := by
  k_fill
  exact ⟨rfl, rfl⟩
local macro_rules | `(tactic| walk_at "call ref") => `(tactic| refine Stop.mk ?_)
theorem news_drop2 {h₀ h : Heap} {L : Addr} {a b : Addr × Obj} {r : Led} (N : News h₀ L h (a :: b :: r)) : News h₀ L h (a :: r) := fun p hp => N p (by
  rcases List.mem_cons.mp hp with rfl | hp
  · exact .head _
  · exact .tail _ (.tail _ hp))
structure XX (x b : Int) : Prop where
  lo : -(2 ^ 60) < x
  hi : x < 2 ^ 60
  blo : -1073741824 < b
  bhi : b < 1073741824
section
variable {w : World} {p : Program} {loose : List Str} {mean : ExcName → Option Value} {mg mb : Fm} {dp un : Nat} {gd : Option (List Code)} {cn : Str} {cs : Scope} {a : Addr} {ccd : Value} {cl : List (Str × Addr)} {outer : List Env} {A₀ : Around} {base h₀ : Heap} {L : Addr} {m : Fm} {s : Shared} {Q E : Value → Shared → Prop} {news : Led}
theorem idm_pp {x b : Int} {tx tb : Tok} {t30 t37 : Led}
   (B : Below A₀ base outer h₀) (F : Fr h₀ L s.heap m) (X : (hd.heap_39 w.params).In h₀) (hT30 : T30 t30) (hT37 : T37 t37) (N : News h₀ L s.heap (t30 ++ (t37 ++ news))) (T : Top p loose mean mg mb h₀) (hk : cs.kind = .function)
   (C30 : CodeHd base 34 30) (C37 : CodeHd base 41 37) (hi : ∀ p ∈ news, @Ne Nat p.1 30 ∧ @Ne Nat p.1 37) (hX : XX x b) (hx0 : 0 ≤ x) (hb0 : 0 < b) (hdp : dp + 120 < recursionLimit) (hu : un + 960 < cLine)
   (hret : ∀ (t30' t37' : Led) (r : Addr) (t1 t2 : Tok) (h' : Heap) (tk' : Nat), T30 t30' → T37 t37' → Fr h₀ L h' m → News h₀ L h' ((r, pairOf (.int (x.fdiv b) t1) (.int (x.fmod b) t2)) :: (t30' ++ (t37' ++ news))) → (∀ p ∈ t30' ++ (t37' ++ news), p.1 ≠ r) → @LT.lt Nat _ 37 r → Q (.ref r) { s with heap := h', toks := tk' }) :
   wpAny (model P0 w) (ktrTop dp un gd cn cs L a ccd cl outer) (call (.ref 56) [.int x tx, .int b tb]) Q E s := by
  refine wpAny_call ?_
  k_dflt cell_enter
  refine abs_all fun QF hQF => ?_
  (repeat' (first | (k_unfold; (try dsimp only)) | (walk1 <;> (try dsimp only)) | (dsimp only; walk1) | ((with_reducible rename Post _ _ => hP'); (with_reducible refine Post.of hP' ?_))))
  refine Stop.of ?_
  rename Fr _ _ _ _ => Fx
  rename News _ _ _ _ => Nx
  have hAB : AB x b := ⟨hx0, Int.lt_trans hX.hi (by decide), hb0, hX.bhi⟩
  k_dflt (refine divmod_pos (by assumption) Fx (by assumption) hT30 hT37 Nx (by assumption) rfl C30 C37 hi hAB ?_ ?_ ?_)
  · show dp + 1 + 110 < recursionLimit
    omega
  · show un + 3 + 950 < cLine
    omega
  intro t30' t37' r t1 t2 h₁ tk₁ h30 h37 F₁ N₁ hne hr
  clear Fx Nx
  (repeat' (first | (k_unfold; (try dsimp only)) | (walk1 <;> (try dsimp only)) | (dsimp only; walk1) | ((with_reducible rename Post _ _ => hP'); (with_reducible refine Post.of hP' ?_))))
  have e1 : x.fdiv b = x / b := Int.fdiv_eq_ediv_of_nonneg _ (Int.le_of_lt hb0)
  have e2 : x.fmod b = x % b := Int.fmod_eq_emod_of_nonneg _ (Int.le_of_lt hb0)
  have hret' := hret t30' t37' r t1 t2
  rw [e1, e2] at hret'
  exact hret' _ _ h30 h37 (by assumption) (by assumption) hne hr
theorem not_eq (x : Int) : Builtin.bitNot x = -x - 1 := by unfold Builtin.bitNot; omega
theorem neg_div {x b : Int} (hb : 0 < b) : Builtin.bitNot ((Builtin.bitNot x).fdiv b) = x.fdiv b ∧ b + Builtin.bitNot ((Builtin.bitNot x).fmod b) = x.fmod b := by
  rw [not_eq, not_eq, not_eq]
  have hb' := Int.le_of_lt hb
  rw [Int.fdiv_eq_ediv_of_nonneg _ hb', Int.fdiv_eq_ediv_of_nonneg _ hb', Int.fmod_eq_emod_of_nonneg _ hb', Int.fmod_eq_emod_of_nonneg _ hb']
  have e1 := Int.mul_ediv_add_emod (-x - 1) b
  have e2 := Int.emod_nonneg (-x - 1) (Int.ne_of_gt hb)
  have e3 := Int.emod_lt_of_pos (-x - 1) hb
  have h := (Int.ediv_emod_unique (a := x) (b := b) (r := b + (-((-x - 1) % b) - 1)) (q := -((-x - 1) / b) - 1) hb).mpr ⟨by
    have e4 : b * (-((-x - 1) / b) - 1) = -(b * ((-x - 1) / b)) - b := by rw [Int.mul_sub, Int.mul_one, Int.mul_neg]
    rw [e4]
    omega, by omega, by omega⟩
  exact ⟨h.1.symm, h.2.symm⟩
theorem idm_np {x b : Int} {tx tb : Tok} {t30 t37 : Led}
   (B : Below A₀ base outer h₀) (F : Fr h₀ L s.heap m) (X : (hd.heap_39 w.params).In h₀) (hT30 : T30 t30) (hT37 : T37 t37) (N : News h₀ L s.heap (t30 ++ (t37 ++ news))) (T : Top p loose mean mg mb h₀) (hk : cs.kind = .function)
   (C30 : CodeHd base 34 30) (C37 : CodeHd base 41 37) (hi : ∀ p ∈ news, @Ne Nat p.1 30 ∧ @Ne Nat p.1 37) (hX : XX x b) (hx0 : x < 0) (hb0 : 0 < b) (hdp : dp + 130 < recursionLimit) (hu : un + 970 < cLine)
   (hret : ∀ (t30' t37' : Led) (r : Addr) (t1 t2 : Tok) (h' : Heap) (tk' : Nat), T30 t30' → T37 t37' → Fr h₀ L h' m → News h₀ L h' ((r, pairOf (.int (x.fdiv b) t1) (.int (x.fmod b) t2)) :: (t30' ++ (t37' ++ news))) → (∀ p ∈ t30' ++ (t37' ++ news), p.1 ≠ r) → @LT.lt Nat _ 37 r → Q (.ref r) { s with heap := h', toks := tk' }) :
   wpAny (model P0 w) (ktrTop dp un gd cn cs L a ccd cl outer) (call (.ref 56) [.int x tx, .int b tb]) Q E s := by
  refine wpAny_call ?_
  k_dflt cell_enter
  refine abs_all fun QF hQF => ?_
  (repeat' (first | (k_unfold; (try dsimp only)) | (walk1 <;> (try dsimp only)) | (dsimp only; walk1) | ((with_reducible rename Post _ _ => hP'); (with_reducible refine Post.of hP' ?_))))
  refine Stop.of ?_
  rename Fr _ _ _ _ => Fx
  rename News _ _ _ _ => Nx
  have hXn : XX (Builtin.bitNot x) b := by
    have h1 := hX.lo
    have h2 := hX.hi
    have e : (2 : Int) ^ 60 = 1152921504606846976 := by decide
    rw [e] at h1 h2
    refine ⟨?_, ?_, hX.blo, hX.bhi⟩ <;> rw [not_eq, e] <;> omega
  have hn0 : 0 ≤ Builtin.bitNot x := by rw [not_eq]; omega
  k_dflt (refine idm_pp (by assumption) Fx (by assumption) hT30 hT37 Nx (by assumption) rfl C30 C37 hi hXn hn0 hb0 ?_ ?_ ?_)
  · show dp + 1 + 120 < recursionLimit
    omega
  · show un + 3 + 960 < cLine
    omega
  intro t30' t37' r t1 t2 h₁ tk₁ h30 h37 F₁ N₁ hne hr
  clear Fx Nx
  (repeat' (first | (k_unfold; (try dsimp only)) | (walk1 <;> (try dsimp only)) | (dsimp only; walk1) | ((with_reducible rename Post _ _ => hP'); (with_reducible refine Post.of hP' ?_))))
  have hdv := neg_div (x := x) hb0
  rename_i D9 _ _ _ l9 kF kN _ _
  obtain ⟨l91, l92⟩ := l9
  have hret' := hret t30' t37' D9
  rw [← hdv.1, ← hdv.2] at hret'
  exact hret' _ _ _ _ h30 h37 kF (news_drop2 kN) (allNe_of l92 (Nat.le_refl _)) (by omega)
theorem idm_p {x b : Int} {tx tb : Tok} {t30 t37 : Led}
   (B : Below A₀ base outer h₀) (F : Fr h₀ L s.heap m) (X : (hd.heap_39 w.params).In h₀) (hT30 : T30 t30) (hT37 : T37 t37) (N : News h₀ L s.heap (t30 ++ (t37 ++ news))) (T : Top p loose mean mg mb h₀) (hk : cs.kind = .function)
   (C30 : CodeHd base 34 30) (C37 : CodeHd base 41 37) (hi : ∀ p ∈ news, @Ne Nat p.1 30 ∧ @Ne Nat p.1 37) (hX : XX x b) (hb0 : 0 < b) (hdp : dp + 130 < recursionLimit) (hu : un + 970 < cLine)
   (hret : ∀ (t30' t37' : Led) (r : Addr) (t1 t2 : Tok) (h' : Heap) (tk' : Nat), T30 t30' → T37 t37' → Fr h₀ L h' m → News h₀ L h' ((r, pairOf (.int (x.fdiv b) t1) (.int (x.fmod b) t2)) :: (t30' ++ (t37' ++ news))) → (∀ p ∈ t30' ++ (t37' ++ news), p.1 ≠ r) → @LT.lt Nat _ 37 r → Q (.ref r) { s with heap := h', toks := tk' }) :
   wpAny (model P0 w) (ktrTop dp un gd cn cs L a ccd cl outer) (call (.ref 56) [.int x tx, .int b tb]) Q E s := by
  by_cases h : x < 0
  · exact idm_np B F X hT30 hT37 N T hk C30 C37 hi hX h hb0 hdp hu hret
  · exact idm_pp B F X hT30 hT37 N T hk C30 C37 hi hX (by omega) hb0 (by omega) (by omega) hret
theorem neg_neg_div {x b : Int} : (-x).fdiv (-b) = x.fdiv b ∧ -((-x).fmod (-b)) = x.fmod b := by
  constructor
  · exact Int.neg_fdiv_neg x b
  · rw [Int.fmod_def, Int.fmod_def, Int.neg_fdiv_neg, Int.neg_mul]
    omega
theorem idm_nb {x b : Int} {tx tb : Tok} {t30 t37 : Led}
   (B : Below A₀ base outer h₀) (F : Fr h₀ L s.heap m) (X : (hd.heap_39 w.params).In h₀) (hT30 : T30 t30) (hT37 : T37 t37) (N : News h₀ L s.heap (t30 ++ (t37 ++ news))) (T : Top p loose mean mg mb h₀) (hk : cs.kind = .function)
   (C30 : CodeHd base 34 30) (C37 : CodeHd base 41 37) (hi : ∀ p ∈ news, @Ne Nat p.1 30 ∧ @Ne Nat p.1 37) (hX : XX x b) (hb0 : b < 0) (hdp : dp + 140 < recursionLimit) (hu : un + 980 < cLine)
   (hret : ∀ (t30' t37' : Led) (r : Addr) (t1 t2 : Tok) (h' : Heap) (tk' : Nat), T30 t30' → T37 t37' → Fr h₀ L h' m → News h₀ L h' ((r, pairOf (.int (x.fdiv b) t1) (.int (x.fmod b) t2)) :: (t30' ++ (t37' ++ news))) → (∀ p ∈ t30' ++ (t37' ++ news), p.1 ≠ r) → @LT.lt Nat _ 37 r → Q (.ref r) { s with heap := h', toks := tk' }) :
   wpAny (model P0 w) (ktrTop dp un gd cn cs L a ccd cl outer) (call (.ref 56) [.int x tx, .int b tb]) Q E s := by
  refine wpAny_call ?_
  k_dflt cell_enter
  refine abs_all fun QF hQF => ?_
  (repeat' (first | (k_unfold; (try dsimp only)) | (walk1 <;> (try dsimp only)) | (dsimp only; walk1) | ((with_reducible rename Post _ _ => hP'); (with_reducible refine Post.of hP' ?_))))
  refine Stop.of ?_
  rename Fr _ _ _ _ => Fx
  rename News _ _ _ _ => Nx
  have hXn : XX (-x) (-b) := by
    have h1 := hX.lo
    have h2 := hX.hi
    have e : (2 : Int) ^ 60 = 1152921504606846976 := by decide
    rw [e] at h1 h2
    have h3 := hX.blo
    have h4 := hX.bhi
    refine ⟨?_, ?_, by omega, by omega⟩ <;> rw [e] <;> omega
  k_dflt (refine idm_p (by assumption) Fx (by assumption) hT30 hT37 Nx (by assumption) rfl C30 C37 hi hXn (by omega) ?_ ?_ ?_)
  · show dp + 1 + 130 < recursionLimit
    omega
  · show un + 3 + 970 < cLine
    omega
  intro t30' t37' r t1 t2 h₁ tk₁ h30 h37 F₁ N₁ hne hr
  clear Fx Nx
  (repeat' (first | (k_unfold; (try dsimp only)) | (walk1 <;> (try dsimp only)) | (dsimp only; walk1) | ((with_reducible rename Post _ _ => hP'); (with_reducible refine Post.of hP' ?_))))
  have hdv := neg_neg_div (x := x) (b := b)
  rename_i D9 _ _ _ l9 kF kN _ _
  obtain ⟨l91, l92⟩ := l9
  have hret' := hret t30' t37' D9
  rw [← hdv.1, ← hdv.2] at hret'
  exact hret' _ _ _ _ h30 h37 kF (news_drop2 kN) (allNe_of l92 (Nat.le_refl _)) (by omega)
/-- the contract of int_divmod -/
theorem idm {x b : Int} {tx tb : Tok} {t30 t37 : Led}
   (B : Below A₀ base outer h₀) (F : Fr h₀ L s.heap m) (X : (hd.heap_39 w.params).In h₀) (hT30 : T30 t30) (hT37 : T37 t37) (N : News h₀ L s.heap (t30 ++ (t37 ++ news))) (T : Top p loose mean mg mb h₀) (hk : cs.kind = .function)
   (C30 : CodeHd base 34 30) (C37 : CodeHd base 41 37) (hi : ∀ p ∈ news, @Ne Nat p.1 30 ∧ @Ne Nat p.1 37) (hX : XX x b) (hb0 : b ≠ 0) (hdp : dp + 140 < recursionLimit) (hu : un + 980 < cLine)
   (hret : ∀ (t30' t37' : Led) (r : Addr) (t1 t2 : Tok) (h' : Heap) (tk' : Nat), T30 t30' → T37 t37' → Fr h₀ L h' m → News h₀ L h' ((r, pairOf (.int (x.fdiv b) t1) (.int (x.fmod b) t2)) :: (t30' ++ (t37' ++ news))) → (∀ p ∈ t30' ++ (t37' ++ news), p.1 ≠ r) → @LT.lt Nat _ 37 r → Q (.ref r) { s with heap := h', toks := tk' }) :
   wpAny (model P0 w) (ktrTop dp un gd cn cs L a ccd cl outer) (call (.ref 56) [.int x tx, .int b tb]) Q E s := by
  by_cases h : b < 0
  · exact idm_nb B F X hT30 hT37 N T hk C30 C37 hi hX h hdp hu hret
  · exact idm_p B F X hT30 hT37 N T hk C30 C37 hi hX (by omega) (by omega) (by omega) hret
end
end Mine

set_option maxHeartbeats 2000000
namespace Mine
theorem fill14 : PySem.Challenge.rw_re0095_01 = PySem.Challenge.rw_re0095_01 ∧ hd.heap_39 = hd.heap_39 := by
  k_fill
  exact ⟨rfl, rfl⟩
section
variable {prog : Program} {w : World} {A : Around} {E : Value → Shared → Prop} {s : Shared} {h₀ : Heap} {L : Addr} {m : Fm} {Q : Value → Shared → Prop}
theorem extend_head {D b : Addr} {rvs svs : List Value} {n n2 : Nat} {rest : Led} (F : Fr h₀ L s.heap m) (N : News h₀ L s.heap ((D, listOf rvs.toArray n) :: rest)) (hne : ∀ p ∈ rest, p.1 ≠ D) (hb : (b, listOf svs.toArray n2) ∈ rest) (hz : rvs.length + svs.length ≤ 1000)
    (h : ∀ h' n', Fr h₀ L h' m → News h₀ L h' ((D, listOf (rvs ++ svs).toArray n') :: rest) → Q .none { s with heap := h' }) : wpAny (model prog w) A (call (.builtin "list.extend") [.ref D, .ref b]) Q E s := by
  have hl : Builtin.List.listTooLong (rvs.toArray.size + svs.toArray.size) = false := by
    simp [Builtin.List.listTooLong, sizeLine_eq]; omega
  have hd : ¬(!rvs.toArray.isEmpty && Builtin.List.listTooLong (rvs.toArray.size + svs.toArray.size)) = true := by rw [hl]; simp
  have h1 : rvs.toArray.toList.length ≤ sizeLine := by rw [sizeLine_eq]; simp; omega
  have h2 : rvs.toArray.size + svs.toArray.size ≤ sizeLine + 1 := by rw [sizeLine_eq]; simp; omega
  cases svs with
  | nil =>
    refine kxn_extend F N (.tail _ hb) (by simp) (Upd.head hne) hd h1 h2 fun h' F' N' => ?_
    refine h h' n F' ?_
    rw [List.append_nil]
    exact N'
  | cons v r =>
    refine kl_extend F N (.tail _ hb) rfl (by simp) (Upd.head hne) hd h1 h2 fun h' F' N' => ?_
    exact h h' _ F' N'
end
theorem news_pick {h₀ h : Heap} {L : Addr} {a b c d : Addr × Obj} {r : Led} (N : News h₀ L h (a :: b :: c :: d :: r)) : News h₀ L h (c :: a :: d :: r) := fun p hp => N p (by
  simp only [List.mem_cons] at hp ⊢
  rcases hp with h | h | h | h
  · exact .inr (.inr (.inl h))
  · exact .inl h
  · exact .inr (.inr (.inr (.inl h)))
  · exact .inr (.inr (.inr (.inr h))))
noncomputable def drawX (d : Int) : Int := d.fmod 1000000
noncomputable def drawStep (st : List Int × List Int) (d : Int) : List Int × List Int :=
  (st.1 ++ (List.replicate ((drawX d).fmod 3).toNat [0]).flatten ++ [if ((drawX d).fdiv 3).fmod 2 = 0 then 1 + ((drawX d).fdiv 6).fmod 255 else 256 + ((drawX d).fdiv 6).fmod 1000],
   st.2 ++ [if ((drawX d).fdiv 3).fmod 2 = 0 then 1 else 2])
local macro_rules | `(tactic| walk_at $s:str) => do if ["call builtin:list.extend", "call builtin:list.append", "exec For Name Name cons nil", "pyIter ref"].contains s.getString then `(tactic| refine Stop.mk ?_) else Lean.Macro.throwUnsupported
inductive DJ (st : List Int × List Int) (R W dr : Addr) (vs : List Value) (e : Nat) (news : Led) (i : Nat) (m' : Fm) (news' : Led) : Prop
  | mk (rvs wvs : List Value) (er ew : Nat) (h0 : news' = (R, listOf rvs.toArray er) :: (W, listOf wvs.toArray ew) :: (dr, listOf vs.toArray e) :: news) (h1 : IntsAre rvs st.1) (h2 : IntsAre wvs st.2) (h3 : rvs.length ≤ 1 + 3 * i) (h4 : wvs.length ≤ 1 + i) (h5 : m' "row" = some (.ref R)) (h6 : m' "weights" = some (.ref W)) : DJ st R W dr vs e news i m' news'
section
variable {w : World} {p : Program} {loose : List Str} {mean : ExcName → Option Value} {mg mb : Fm} {dp un : Nat} {gd : Option (List Code)} {cn : Str} {cs : Scope} {a : Addr} {ccd : Value} {cl : List (Str × Addr)} {outer : List Env} {A₀ : Around} {base h₀ : Heap} {L : Addr} {m : Fm} {s : Shared} {Q E : Value → Shared → Prop} {news : Led}
theorem drawn_call {dr : Addr} {vs : List Value} {ns : List Int} {e : Nat}
   (B : Below A₀ base outer h₀) (F : Fr h₀ L s.heap m) (X : (hd.heap_39 w.params).In h₀) (N : News h₀ L s.heap ((dr, listOf vs.toArray e) :: news)) (T : Top p loose mean mg mb h₀) (hk : cs.kind = .function)
   (hI : IntsAre vs ns) (hl : ns.length ≤ 10) (hdp : dp + 2 < recursionLimit) (hu : un + 20 < cLine)
   (hret : ∀ (r R W : Addr) (rvs wvs : List Value) (er ew : Nat) (h' : Heap) (tk' : Nat), IntsAre rvs (ns.foldl drawStep ([300], [2])).1 → IntsAre wvs (ns.foldl drawStep ([300], [2])).2 → Fr h₀ L h' m →
     News h₀ L h' ((r, pairOf (.ref R) (.ref W)) :: (R, listOf rvs.toArray er) :: (W, listOf wvs.toArray ew) :: news) → (∀ p ∈ news, p.1 < R ∧ p.1 < W ∧ p.1 < r) → Q (.ref r) { s with heap := h', toks := tk' }) :
   wpAny (model P0 w) (ktrTop dp un gd cn cs L a ccd cl outer) (call (.ref 98) [.ref dr]) Q E s := by
  refine wpAny_call ?_
  k_dflt cell_enter
  refine abs_all fun QF hQF => ?_
  (repeat' (first | (k_unfold; (try dsimp only)) | (walk1 <;> (try dsimp only)) | (dsimp only; walk1) | ((with_reducible rename Post _ _ => hP'); (with_reducible refine Post.of hP' ?_))))
  refine Stop.of ?_
  rename Fr _ _ _ _ => Fx
  rename News _ _ _ _ => Nx
  refine For_invVF Fx rfl rfl ?_
  (repeat' (first | (k_unfold; (try dsimp only)) | (walk1 <;> (try dsimp only)) | (dsimp only; walk1) | ((with_reducible rename Post _ _ => hP'); (with_reducible refine Post.of hP' ?_))))
  refine Stop.of ?_
  rename Fr _ _ _ _ => Fx
  rename News _ _ _ _ => Nx
  rename_i R _ lR _ tkW W _ lW _
  obtain ⟨lR1, lR2⟩ := lR
  obtain ⟨lW1, lW2, lW3⟩ := lW
  have hl9 : vs.length = ns.length := hI.length
  have hnR : ∀ p ∈ news, p.1 ≠ R := allNe_of lR2 (Nat.le_refl _)
  have hnW : ∀ p ∈ news, p.1 ≠ W := allNe_of lW3 (Nat.le_refl _)
  have Ny := news_rot2 Nx
  refine loop_list (fun i => DJ ((ns.take i).foldl drawStep ([300], [2])) R W dr vs e news i)
    rfl (.tail _ (.tail _ (.head _))) Fx Ny ?_ ?_ ?_
  · exact ⟨[.int 300 _], [.int 2 _], 0, 0, rfl, .cons _ _ .nil, .cons _ _ .nil, by simp, by simp, rfl, rfl⟩
  · rintro i v m₁ news₁ I oI h₂ tk₂ hvi ⟨rvs, wvs, er, ew, rfl, hIr, hIw, hrl, hwl, hrow, hwei⟩ hDm hnI F₁ N₁
    clear Fx Nx Ny
    have hil : i < ns.length := by
      have := (Array.getElem?_eq_some_iff.mp hvi).1
      rw [List.size_toArray] at this
      omega
    obtain ⟨d, hd⟩ : ∃ d, ns[i]? = some d := ⟨_, List.getElem?_eq_getElem hil⟩
    obtain ⟨td, htd⟩ := hI.get _ _ hd
    rw [List.getElem?_toArray, htd] at hvi
    cases hvi
    have htk : ns.take (i + 1) = ns.take i ++ [d] := by rw [List.take_add_one, hd]; rfl
    rw [htk, List.foldl_append]
    generalize (ns.take i).foldl drawStep ([300], [2]) = st at *
    have hnIR : @Ne Nat R I := hnI _ (.head _)
    have hnIW : @Ne Nat W I := hnI _ (.tail _ (.head _))
    have hnID : @Ne Nat dr I := hnI _ (.tail _ (.tail _ (.head _)))
    obtain ⟨u2, F₂⟩ := fr_kstO [("draw", .int d td), ("row", .ref R), ("weights", .ref W)] F₁ ⟨rfl, hrow, hwei, trivial⟩
    have N₂ := N₁
    clear F₁ N₁ hrow hwei
    dsimp only [kstB] at F₂
    refine abs_all fun QT1 hQT1 => ?_
    (repeat' (first | (k_unfold; (try dsimp only)) | (walk1 <;> (try dsimp only)) | (dsimp only; walk1) | ((with_reducible rename Post _ _ => hP'); (with_reducible refine Post.of hP' ?_))))
    refine Stop.of ?_
    rename Fr _ _ _ _ => Fx
    rename News _ _ _ _ => Nx
    rename_i l0 _ _ _ lA D0 _ i1 n1 s1 e1 e2 e3 lB
    have hx0 : 0 ≤ d.fmod (10 ^ Int.toNat 6) := Int.fmod_nonneg_of_pos _ (by decide)
    have hxx : d.fmod (10 ^ Int.toNat 6) = drawX d := rfl
    generalize d.fmod (10 ^ Int.toNat 6) = xd at *
    have hx3 : 0 ≤ xd.fmod 3 := Int.fmod_nonneg_of_pos _ (by decide)
    have hx3' : xd.fmod 3 < 3 := Int.fmod_lt_of_pos _ (by decide)
    generalize hzs : (List.replicate (xd.fmod 3).toNat [Value.int 0 tk]).flatten = zs at *
    have hzl : zs.length ≤ 2 := by
      rw [List.size_toArray] at s1
      have := e3 hx3
      simp at this
      omega
    obtain ⟨lB1, lB2, lB3, lB4, lB5, lB6⟩ := lB
    have hneR : ∀ p ∈ (D0, listOf zs.toArray 0) :: (I, oI) :: (W, listOf wvs.toArray ew) :: (dr, listOf vs.toArray e) :: news, p.1 ≠ R := by
      intro p hp
      simp only [List.mem_cons] at hp
      refine neN ?_
      rcases hp with rfl | rfl | rfl | rfl | hp
      · show @Ne Nat D0 R; omega
      · show @Ne Nat I R; omega
      · show @Ne Nat W R; omega
      · show @Ne Nat dr R; omega
      · exact hnR p hp
    have hneW : ∀ p ∈ (dr, listOf vs.toArray e) :: news, p.1 ≠ W := by
      intro p hp
      refine neN ?_
      rcases List.mem_cons.mp hp with rfl | hp
      · show @Ne Nat dr W; omega
      · exact hnW p hp
    have Ny := news_sub (b := (R, listOf rvs.toArray er) :: (D0, listOf zs.toArray 0) :: (I, oI) :: (W, listOf wvs.toArray ew) :: (dr, listOf vs.toArray e) :: news) Nx (by
      intro p hp
      simp only [List.mem_cons] at hp ⊢
      rcases hp with h | h | h | h | h | h <;> simp [h])
    refine extend_head Fx Ny hneR (.head _) (by omega) ?_
    intro h₃ n' F₃ N₃
    clear Fx Nx Ny
    (repeat' (first | (k_unfold; (try dsimp only)) | (walk1 <;> (try dsimp only)) | (dsimp only; walk1) | ((with_reducible rename Post _ _ => hP'); (with_reducible refine Post.of hP' ?_))))
    · refine Stop.of ?_
      rename Fr _ _ _ _ => Fx
      rename News _ _ _ _ => Nx
      rename (xd.fdiv 3).fmod 2 = 0 => hc
      refine append_K Fx Nx (Upd.head hneR) ?_ (by rw [List.size_toArray, sizeLine_eq, List.length_append]; omega)
      intro h₄ F₄ N₄
      rw [List.push_toArray] at N₄
      clear Fx Nx
      (repeat' (first | (k_unfold; (try dsimp only)) | (walk1 <;> (try dsimp only)) | (dsimp only; walk1) | ((with_reducible rename Post _ _ => hP'); (with_reducible refine Post.of hP' ?_))))
      refine Stop.of ?_
      rename Fr _ _ _ _ => Fx
      rename News _ _ _ _ => Nx
      refine append_K Fx Nx (Upd.tail (show @Ne Nat R W by omega) (Upd.tail (show @Ne Nat D0 W by omega) (Upd.tail (show @Ne Nat I W by omega) (Upd.head hneW)))) ?_ (by rw [List.size_toArray, sizeLine_eq]; omega)
      intro h₅ F₅ N₅
      rw [List.push_toArray] at N₅
      clear Fx Nx
      (repeat' (first | (k_unfold; (try dsimp only)) | (walk1 <;> (try dsimp only)) | (dsimp only; walk1) | ((with_reducible rename Post _ _ => hP'); (with_reducible refine Post.of hP' ?_))))
      refine TurnEnd.next _ (by assumption) (news_pick (by assumption)) ?_ ?_ ?_
      · intro p hp
        simp only [List.mem_cons] at hp
        rcases hp with rfl | rfl | rfl | hp
        · exact hnIR
        · exact hnIW
        · exact hnID
        · exact hnI p (.tail _ (.tail _ (.tail _ hp)))
      · intro p hp
        rw [List.mem_singleton.mp hp]
        exact .tail _ (.tail _ (.head _))
      · refine ⟨_, _, _, _, rfl, ?_, ?_, ?_, ?_, rfl, rfl⟩
        · simp only [List.foldl_cons, List.foldl_nil, drawStep, ← hxx, if_pos hc]
          exact (hIr.append i1).append (.cons _ _ .nil)
        · simp only [List.foldl_cons, List.foldl_nil, drawStep, ← hxx, if_pos hc]
          exact hIw.append (.cons _ _ .nil)
        · rw [List.length_append, List.length_append]; simp only [List.length_cons, List.length_nil]; omega
        · rw [List.length_append]; simp only [List.length_cons, List.length_nil]; omega
    · refine Stop.of ?_
      rename Fr _ _ _ _ => Fx
      rename News _ _ _ _ => Nx
      rename (xd.fdiv 3).fmod 2 ≠ 0 => hc
      refine append_K Fx Nx (Upd.head hneR) ?_ (by rw [List.size_toArray, sizeLine_eq, List.length_append]; omega)
      intro h₄ F₄ N₄
      rw [List.push_toArray] at N₄
      clear Fx Nx
      (repeat' (first | (k_unfold; (try dsimp only)) | (walk1 <;> (try dsimp only)) | (dsimp only; walk1) | ((with_reducible rename Post _ _ => hP'); (with_reducible refine Post.of hP' ?_))))
      refine Stop.of ?_
      rename Fr _ _ _ _ => Fx
      rename News _ _ _ _ => Nx
      refine append_K Fx Nx (Upd.tail (show @Ne Nat R W by omega) (Upd.tail (show @Ne Nat D0 W by omega) (Upd.tail (show @Ne Nat I W by omega) (Upd.head hneW)))) ?_ (by rw [List.size_toArray, sizeLine_eq]; omega)
      intro h₅ F₅ N₅
      rw [List.push_toArray] at N₅
      clear Fx Nx
      (repeat' (first | (k_unfold; (try dsimp only)) | (walk1 <;> (try dsimp only)) | (dsimp only; walk1) | ((with_reducible rename Post _ _ => hP'); (with_reducible refine Post.of hP' ?_))))
      refine TurnEnd.next _ (by assumption) (news_pick (by assumption)) ?_ ?_ ?_
      · intro p hp
        simp only [List.mem_cons] at hp
        rcases hp with rfl | rfl | rfl | hp
        · exact hnIR
        · exact hnIW
        · exact hnID
        · exact hnI p (.tail _ (.tail _ (.tail _ hp)))
      · intro p hp
        rw [List.mem_singleton.mp hp]
        exact .tail _ (.tail _ (.head _))
      · refine ⟨_, _, _, _, rfl, ?_, ?_, ?_, ?_, rfl, rfl⟩
        · simp only [List.foldl_cons, List.foldl_nil, drawStep, ← hxx, if_neg hc]
          exact (hIr.append i1).append (.cons _ _ .nil)
        · simp only [List.foldl_cons, List.foldl_nil, drawStep, ← hxx, if_neg hc]
          exact hIw.append (.cons _ _ .nil)
        · rw [List.length_append, List.length_append]; simp only [List.length_cons, List.length_nil]; omega
        · rw [List.length_append]; simp only [List.length_cons, List.length_nil]; omega
  · rintro m₁ news₁ h₂ tk₂ ⟨rvs, wvs, er, ew, rfl, hIr, hIw, hrl, hwl, hrow, hwei⟩ hDm F₁ N₁
    clear Fx Nx Ny
    rw [List.size_toArray, hl9, List.take_length] at hIr hIw
    obtain ⟨u2, F₂⟩ := fr_kstO [("row", .ref R), ("weights", .ref W)] F₁ ⟨hrow, hwei, trivial⟩
    have N₂ := N₁
    clear F₁ N₁ hrow hwei
    dsimp only [kstB] at F₂
    (repeat' (first | (k_unfold; (try dsimp only)) | (walk1 <;> (try dsimp only)) | (dsimp only; walk1) | ((with_reducible rename Post _ _ => hP'); (with_reducible refine Post.of hP' ?_))))
    rename_i D9 _ _ _ l9 kF kN _ _
    obtain ⟨l91, l92, l93, l94⟩ := l9
    refine hret D9 R W rvs wvs er ew _ _ hIr hIw kF (news_sub kN ?_) ?_
    · intro p hp
      simp only [List.mem_cons] at hp ⊢
      rcases hp with h | h | h | h <;> simp [h]
    · intro p hp
      exact ⟨ktn_ltOf lR2 p hp, ktn_ltOf lW3 p hp, ktn_ltOf l94 p hp⟩
end
end Mine

set_option maxHeartbeats 2000000
namespace Mine
theorem fill15 : PySem.Challenge.rw_re0095_01 = PySem.Challenge.rw_re0095_01 ∧ hd.heap_39 = hd.heap_39 := by
  k_fill
  exact ⟨rfl, rfl⟩
structure DueSt where
  due : List Int
  product : Int
  total : Int
  sign : Int
noncomputable def dueStep (st : DueSt) (k : Nat) (w : Int) : DueSt := ⟨st.due ++ [st.sign * 2 ^ k * (st.product * w) * (st.total + w)], st.product * w, st.total + w, -st.sign⟩
noncomputable def dueN (ws : List Int) : Nat → DueSt
  | 0 => ⟨[ws.getD 0 0], 1, 0, 1⟩
  | k + 1 => dueStep (dueN ws k) k (ws.getD k 0)
noncomputable def dueP (ws : List Int) : List Int := (dueN ws ws.length).due
structure DueB (st : DueSt) (k : Nat) : Prop where
  p0 : 0 ≤ st.product
  p1 : st.product ≤ 2 ^ k
  t0 : 0 ≤ st.total
  t1 : st.total ≤ 2 * k
  s : st.sign = 1 ∨ st.sign = -1
theorem dueN_bounds (ws : List Int) (hw : ∀ x ∈ ws, 0 ≤ x ∧ x ≤ 2) (k : Nat) : k ≤ ws.length → DueB (dueN ws k) k := by
  induction k with
  | zero => exact fun _ => ⟨show (0 : Int) ≤ 1 by decide, show (1 : Int) ≤ 2 ^ 0 by decide, show (0 : Int) ≤ 0 by decide, show (0 : Int) ≤ 2 * ((0 : Nat) : Int) by decide, .inl rfl⟩
  | succ k ih =>
    intro hk
    have ih := ih (Nat.le_of_succ_le hk)
    have hwk : 0 ≤ ws.getD k 0 ∧ ws.getD k 0 ≤ 2 := by
      have : ws.getD k 0 = ws[k] := by simp [show k < ws.length by omega]
      rw [this]; exact hw _ (List.getElem_mem _)
    refine ⟨Int.mul_nonneg ih.p0 hwk.1, ?_, ?_, ?_, ?_⟩
    · show (dueN ws k).product * ws.getD k 0 ≤ 2 ^ (k + 1)
      rw [Int.pow_succ]
      exact Int.mul_le_mul ih.p1 hwk.2 hwk.1 (Int.le_of_lt (Int.pow_pos (by decide)))
    · show 0 ≤ (dueN ws k).total + ws.getD k 0
      have := ih.t0; omega
    · show (dueN ws k).total + ws.getD k 0 ≤ 2 * ((k + 1 : Nat) : Int)
      have := ih.t1; omega
    · show -(dueN ws k).sign = 1 ∨ -(dueN ws k).sign = -1
      rcases ih.s with h | h <;> rw [h] <;> simp
theorem bits_abs {x : Int} (h : x.natAbs < 2 ^ 64) : Builtin.Int.intBits x ≤ 64 := by
  unfold Builtin.Int.intBits
  split
  · exact Nat.zero_le _
  · rename_i hz
    have hz' : x ≠ 0 := by simpa using hz
    exact (Nat.log2_lt (by omega)).mpr h
theorem pow_le_k {k : Nat} (h : k ≤ 11) : (2 : Int) ^ k ≤ 2048 := by
  have : 2 ^ k ≤ 2 ^ 11 := Nat.pow_le_pow_right (by decide) h
  have h2 : ((2 ^ k : Nat) : Int) ≤ ((2048 : Nat) : Int) := Int.ofNat_le.mpr this
  simpa using h2
theorem small_abs {x : Int} (h : x.natAbs ≤ 100000000) : x.natAbs < 2 ^ 64 := Nat.lt_of_le_of_lt h (by decide)
local macro_rules | `(tactic| walk_at $s:str) => do if ["call builtin:list.append", "exec For Name Call cons nil", "pyIter ref", "binaryOp Mult int int"].contains s.getString then `(tactic| refine Stop.mk ?_) else Lean.Macro.throwUnsupported
inductive UJ (st : DueSt) (D wr : Addr) (vs : List Value) (e : Nat) (news : Led) (i : Nat) (m' : Fm) (news' : Led) : Prop
  | mk (dvs : List Value) (ed : Nat) (t1 t2 t3 : Tok) (h0 : news' = (D, listOf dvs.toArray ed) :: (wr, listOf vs.toArray e) :: news) (h1 : IntsAre dvs st.due) (h2 : dvs.length = 1 + i) (h3 : m' "weights" = some (.ref wr)) (h4 : m' "due" = some (.ref D)) (h5 : m' "product" = some (.int st.product t1)) (h6 : m' "total" = some (.int st.total t2)) (h7 : m' "sign" = some (.int st.sign t3)) : UJ st D wr vs e news i m' news'
section
variable {w : World} {p : Program} {loose : List Str} {mean : ExcName → Option Value} {mg mb : Fm} {dp un : Nat} {gd : Option (List Code)} {cn : Str} {cs : Scope} {a : Addr} {ccd : Value} {cl : List (Str × Addr)} {outer : List Env} {A₀ : Around} {base h₀ : Heap} {L : Addr} {m : Fm} {s : Shared} {Q E : Value → Shared → Prop} {news : Led}
theorem due_call {wr : Addr} {vs : List Value} {ws : List Int} {e : Nat}
   (B : Below A₀ base outer h₀) (F : Fr h₀ L s.heap m) (X : (hd.heap_39 w.params).In h₀) (N : News h₀ L s.heap ((wr, listOf vs.toArray e) :: news)) (T : Top p loose mean mg mb h₀) (hk : cs.kind = .function)
   (hI : IntsAre vs ws) (hl : ws.length ≤ 10) (hl1 : 1 ≤ ws.length) (hw : ∀ x ∈ ws, 0 ≤ x ∧ x ≤ 2) (hdp : dp + 2 < recursionLimit) (hu : un + 20 < cLine)
   (hret : ∀ (D : Addr) (dvs : List Value) (ed : Nat) (h' : Heap) (tk' : Nat), IntsAre dvs (dueP ws) → Fr h₀ L h' m →
     News h₀ L h' ((D, listOf dvs.toArray ed) :: (wr, listOf vs.toArray e) :: news) → (∀ p ∈ news, p.1 < D) → Q (.ref D) { s with heap := h', toks := tk' }) :
   wpAny (model P0 w) (ktrTop dp un gd cn cs L a ccd cl outer) (call (.ref 122) [.ref wr]) Q E s := by
  have hl1' : (0 : Int) < (ws.length : Int) := by omega
  refine wpAny_call ?_
  k_dflt cell_enter
  refine abs_all fun QF hQF => ?_
  (repeat' (first | (k_unfold; (try dsimp only)) | (walk1 <;> (try dsimp only)) | (dsimp only; walk1) | ((with_reducible rename Post _ _ => hP'); (with_reducible refine Post.of hP' ?_))))
  refine Stop.of ?_
  rename Fr _ _ _ _ => Fx
  rename News _ _ _ _ => Nx
  refine For_invVF Fx rfl rfl ?_
  (repeat' (first | (k_unfold; (try dsimp only)) | (walk1 <;> (try dsimp only)) | (dsimp only; walk1) | ((with_reducible rename Post _ _ => hP'); (with_reducible refine Post.of hP' ?_))))
  refine Stop.of ?_
  rename Fr _ _ _ _ => Fx
  rename News _ _ _ _ => Nx
  rename IsRange _ _ _ _ _ _ _ _ => rg
  rename_i D _ lD _ _ _ _ _ _ _ _ _ _ _ _ _ _ _
  obtain ⟨lD1, lD2⟩ := lD
  have hneD : ∀ p ∈ (wr, listOf vs.toArray e) :: news, p.1 ≠ D := by
    intro p hp
    refine neN ?_
    rcases List.mem_cons.mp hp with rfl | hp
    · show @Ne Nat wr D; omega
    · exact allNe_of lD2 (Nat.le_refl _) p hp
  k_sweep
  refine loop_range ws.length (fun i => UJ (dueN ws i) D wr vs e news i)
    rfl rg (small_one (by decide) (by decide) (by omega) (by omega)) (by rw [rangeSize_nat]; omega) Fx Nx ?_ ?_ ?_
  · exact ⟨[.int (ws.getD 0 0) _], 0, _, _, _, rfl, .cons _ _ .nil, rfl, rfl, rfl, rfl, rfl, rfl⟩
  · rintro i t₁ m₁ news₁ I oI h₂ tk₂ hi ⟨dvs, ed, t1, t2, t3, rfl, hId, hdl, hwei, hdue, hpr, hto, hsi⟩ hnI F₁ N₁
    clear Fx Nx rg
    rw [Int.zero_add] at F₁
    have hB := dueN_bounds ws hw i (by omega)
    have hB' := dueN_bounds ws hw (i + 1) (by omega)
    have hst : dueN ws (i + 1) = dueStep (dueN ws i) i (ws.getD i 0) := rfl
    generalize dueN ws i = st at *
    have hnID : @Ne Nat D I := hnI _ (.head _)
    have hii : (i : Int) < (ws.length : Int) := by omega
    obtain ⟨u2, F₂⟩ := fr_kstO [("k", .int (i : Int) t₁), ("weights", .ref wr), ("due", .ref D), ("product", .int st.product t1), ("total", .int st.total t2), ("sign", .int st.sign t3)] F₁ ⟨rfl, hwei, hdue, hpr, hto, hsi, trivial⟩
    have N₂ := N₁
    clear F₁ N₁ hwei hdue hpr hto hsi
    dsimp only [kstB] at F₂
    have hp2 := pow_le_k (k := i) (by omega)
    have hp0 := pow_pos' i
    have hab1 : st.product.natAbs ≤ 100000000 := by have := hB.p0; have := hB.p1; omega
    refine abs_all fun QT1 hQT1 => ?_
    (repeat' (first | (k_unfold; (try dsimp only)) | (walk1 <;> (try dsimp only)) | (dsimp only; walk1) | ((with_reducible rename Post _ _ => hP'); (with_reducible refine Post.of hP' ?_))))
    refine Stop.of ?_
    refine mul_int ?_ (IntMulOk.of_left (bits_abs (small_abs hab1)))
    (repeat' (first | (k_unfold; (try dsimp only)) | (walk1 <;> (try dsimp only)) | (dsimp only; walk1) | ((with_reducible rename Post _ _ => hP'); (with_reducible refine Post.of hP' ?_))))
    refine Stop.of ?_
    have hab2 : st.sign.natAbs ≤ 100000000 := by rcases hB.s with h | h <;> rw [h] <;> decide
    refine mul_int ?_ (IntMulOk.of_left (bits_abs (small_abs hab2)))
    (repeat' (first | (k_unfold; (try dsimp only)) | (walk1 <;> (try dsimp only)) | (dsimp only; walk1) | ((with_reducible rename Post _ _ => hP'); (with_reducible refine Post.of hP' ?_))))
    refine Stop.of ?_
    rw [Int.toNat_natCast]
    have hab3 : (st.sign * 2 ^ i).natAbs ≤ 2048 := by
      rcases hB.s with h | h <;> rw [h]
      · rw [Int.one_mul]; omega
      · rw [Int.neg_one_mul]; omega
    refine mul_int ?_ (IntMulOk.of_left (bits_abs (small_abs (Nat.le_trans hab3 (by decide)))))
    (repeat' (first | (k_unfold; (try dsimp only)) | (walk1 <;> (try dsimp only)) | (dsimp only; walk1) | ((with_reducible rename Post _ _ => hP'); (with_reducible refine Post.of hP' ?_))))
    refine Stop.of ?_
    have hpw := pow_le_k (k := i + 1) (by omega)
    have hab4 : (st.sign * 2 ^ i * (st.product * ws.getD i 0)).natAbs ≤ 100000000 := by
      rw [Int.natAbs_mul]
      have h1 := hB'.p0
      have h2 := hB'.p1
      rw [hst] at h1 h2
      have h3 : (st.product * ws.getD i 0).natAbs ≤ 2048 := by
        have h1' : 0 ≤ st.product * ws.getD i 0 := h1
        have h2' : st.product * ws.getD i 0 ≤ 2 ^ (i + 1) := h2
        omega
      exact Nat.le_trans (Nat.mul_le_mul hab3 h3) (by decide)
    refine mul_int ?_ (IntMulOk.of_left (bits_abs (small_abs hab4)))
    (repeat' (first | (k_unfold; (try dsimp only)) | (walk1 <;> (try dsimp only)) | (dsimp only; walk1) | ((with_reducible rename Post _ _ => hP'); (with_reducible refine Post.of hP' ?_))))
    refine Stop.of ?_
    rename Fr _ _ _ _ => Fx
    rename News _ _ _ _ => Nx
    refine append_K Fx Nx (Upd.tail (show @Ne Nat I D by omega) (Upd.head hneD)) ?_ (by rw [List.size_toArray, sizeLine_eq]; omega)
    intro h₅ F₅ N₅
    rw [List.push_toArray] at N₅
    clear Fx Nx
    (repeat' (first | (k_unfold; (try dsimp only)) | (walk1 <;> (try dsimp only)) | (dsimp only; walk1) | ((with_reducible rename Post _ _ => hP'); (with_reducible refine Post.of hP' ?_))))
    refine TurnEnd.next _ (by assumption) (by assumption) ?_ (fun _ h => nomatch h) ?_
    · intro p hp
      rcases List.mem_cons.mp hp with rfl | hp
      · exact hnID
      · exact hnI p (.tail _ hp)
    · rw [hst]
      exact ⟨_, _, _, _, _, rfl, hId.append (.cons _ _ .nil), by rw [List.length_append, hdl]; simp; omega, rfl, rfl, rfl, rfl, rfl⟩
  · rintro m₁ news₁ h₂ tk₂ ⟨dvs, ed, t1, t2, t3, rfl, hId, hdl, hwei, hdue, hpr, hto, hsi⟩ F₁ N₁
    clear Fx Nx rg
    obtain ⟨u2, F₂⟩ := fr_kstO [("due", .ref D)] F₁ ⟨hdue, trivial⟩
    have N₂ := N₁
    clear F₁ N₁ hwei hdue hpr hto hsi
    dsimp only [kstB] at F₂
    (repeat' (first | (k_unfold; (try dsimp only)) | (walk1 <;> (try dsimp only)) | (dsimp only; walk1) | ((with_reducible rename Post _ _ => hP'); (with_reducible refine Post.of hP' ?_))))
    exact hret D dvs ed _ _ hId (by assumption) (by assumption) (ktn_ltOf lD2)
end
end Mine

set_option maxHeartbeats 2000000
namespace Mine
theorem fill17 : PySem.Challenge.rw_re0095_01 = PySem.Challenge.rw_re0095_01 ∧ hd.heap_39 = hd.heap_39 := by
  k_fill
  exact ⟨rfl, rfl⟩
section
variable {w : World} {p : Program} {loose : List Str} {mean : ExcName → Option Value} {mg mb : Fm} {dp un : Nat} {gd : Option (List Code)} {cn : Str} {cs : Scope} {a : Addr} {ccd : Value} {cl : List (Str × Addr)} {outer : List Env} {A₀ : Around} {base h₀ : Heap} {L : Addr} {m : Fm} {s : Shared} {Q E : Value → Shared → Prop} {news : Led}
theorem iseof {y : Int} {ty : Tok}
   (B : Below A₀ base outer h₀) (F : Fr h₀ L s.heap m) (X : (hd.heap_39 w.params).In h₀) (N : News h₀ L s.heap news) (T : Top p loose mean mg mb h₀) (hk : cs.kind = .function)
   (hdp : dp + 1 < recursionLimit) (hu : un + 8 < cLine)
   (hret : ∀ (h' : Heap) (tk' : Nat), Fr h₀ L h' m → News h₀ L h' news → Q (.bool (y == 0)) { s with heap := h', toks := tk' }) :
   wpAny (model P0 w) (ktrTop dp un gd cn cs L a ccd cl outer) (call (.ref 77) [.int y ty]) Q E s := by
  refine wpAny_call ?_
  k_dflt cell_enter
  refine abs_all fun QF hQF => ?_
  (repeat' (first | (k_unfold; (try dsimp only)) | (walk1 <;> (try dsimp only)) | (dsimp only; walk1) | ((with_reducible rename Post _ _ => hP'); (with_reducible refine Post.of hP' ?_))))
  exact hret _ _ (by assumption) (by assumption)
theorem isterm {y : Int} {ty : Tok}
   (B : Below A₀ base outer h₀) (F : Fr h₀ L s.heap m) (X : (hd.heap_39 w.params).In h₀) (N : News h₀ L s.heap news) (T : Top p loose mean mg mb h₀) (hk : cs.kind = .function)
   (hdp : dp + 1 < recursionLimit) (hu : un + 8 < cLine)
   (hret : ∀ (h' : Heap) (tk' : Nat), Fr h₀ L h' m → News h₀ L h' news → Q (.bool (decide (y < 256))) { s with heap := h', toks := tk' }) :
   wpAny (model P0 w) (ktrTop dp un gd cn cs L a ccd cl outer) (call (.ref 63) [.int y ty]) Q E s := by
  refine wpAny_call ?_
  k_dflt cell_enter
  refine abs_all fun QF hQF => ?_
  (repeat' (first | (k_unfold; (try dsimp only)) | (walk1 <;> (try dsimp only)) | (dsimp only; walk1) | ((with_reducible rename Post _ _ => hP'); (with_reducible refine Post.of hP' ?_))))
  exact hret _ _ (by assumption) (by assumption)
theorem isnont {y : Int} {ty : Tok}
   (B : Below A₀ base outer h₀) (F : Fr h₀ L s.heap m) (X : (hd.heap_39 w.params).In h₀) (N : News h₀ L s.heap news) (T : Top p loose mean mg mb h₀) (hk : cs.kind = .function)
   (hdp : dp + 1 < recursionLimit) (hu : un + 8 < cLine)
   (hret : ∀ (h' : Heap) (tk' : Nat), Fr h₀ L h' m → News h₀ L h' news → Q (.bool (decide (256 ≤ y))) { s with heap := h', toks := tk' }) :
   wpAny (model P0 w) (ktrTop dp un gd cn cs L a ccd cl outer) (call (.ref 70) [.int y ty]) Q E s := by
  refine wpAny_call ?_
  k_dflt cell_enter
  refine abs_all fun QF hQF => ?_
  (repeat' (first | (k_unfold; (try dsimp only)) | (walk1 <;> (try dsimp only)) | (dsimp only; walk1) | ((with_reducible rename Post _ _ => hP'); (with_reducible refine Post.of hP' ?_))))
  exact hret _ _ (by assumption) (by assumption)
end
end Mine

set_option maxHeartbeats 2000000
namespace Mine
theorem fill16 : PySem.Challenge.rw_re0095_01 = PySem.Challenge.rw_re0095_01 ∧ hd.heap_39 = hd.heap_39 := by
  k_fill
  exact ⟨rfl, rfl⟩
structure WSt where
  words : List (List Nat)
  pile : List Int
noncomputable def wordStep (st : WSt) (y : Int) : WSt :=
  if y = 0 then ⟨st.words, st.pile.take 1 ++ (st.pile.drop 1).dropLast⟩
  else if y < 256 then ⟨st.words ++ [(st.words.getD (st.pile.getLastD 0).toNat []).set (st.words.length - 1) (65 + (st.words.length - 1))], st.pile⟩
  else ⟨st.words ++ [(st.words.getD (st.pile.getLastD 0).toNat []).set (st.words.length - 1) (48 + (st.words.length - 1))], st.pile ++ [(st.words.length : Int)]⟩
noncomputable def word0 : WSt := ⟨[[97, 98, 99, 100, 101]], [0]⟩
theorem S_app (a b : List Nat) : S a ++ S b = S (a ++ b) := by
  show Str.mk _ = Str.mk _
  simp [S]
theorem word_text {x : List Nat} {n c : Nat} {u : Str} (h5 : x.length = 5) (hn : n ≤ 4) (hu : u = S [c]) :
    Txt.slice (S x) none (some (1 + (n : Int) - 1)) ++ u ++ Txt.slice (S x) (some (1 + (n : Int) - 1 + 1)) none = S (x.set n c) := by
  have e1 : 1 + (n : Int) - 1 = (n : Int) := by omega
  have e2 : 1 + (n : Int) - 1 + 1 = ((n + 1 : Nat) : Int) := by omega
  rw [e2, e1, S_ns (by omega), S_sn (by omega), hu, S_app, S_app, List.set_eq_take_append_cons_drop, if_pos (by omega)]
  simp
theorem upper_at {x : List Nat} {n : Nat} (h : x[n]? = some (97 + n)) (hn : n ≤ 4) : Txt.upper (Txt.item (S x) (1 + (n : Int) - 1)) = S [65 + n] := by
  have e1 : 1 + (n : Int) - 1 = (n : Int) := by omega
  obtain ⟨hl, e⟩ := List.getElem?_eq_some_iff.mp h
  rw [e1, S_item hl, e]
  have := KOpn.upper_one (c := 97 + n) (by omega)
  rw [if_pos (by omega)] at this
  have e3 : 97 + n - 32 = 65 + n := by omega
  rw [e3] at this
  exact this
structure WInv (st : WSt) (n : Nat) : Prop where
  wl : st.words.length = 1 + n
  pl0 : 0 < st.pile.length
  pl : st.pile.length ≤ st.words.length
  pile : ∀ q ∈ st.pile, 0 ≤ q ∧ q < st.words.length
  wrd : ∀ x ∈ st.words, x.length = 5 ∧ ∀ j, n ≤ j → j < 5 → x[j]? = some (97 + j)
theorem WInv.start : WInv word0 0 := by
  refine ⟨rfl, by decide, by decide, ?_, ?_⟩
  · intro q hq
    rw [List.mem_singleton.mp hq]
    decide
  · intro x hx
    rw [List.mem_singleton.mp hx]
    refine ⟨rfl, fun j _ hj => ?_⟩
    match j, hj with
    | 0, _ | 1, _ | 2, _ | 3, _ | 4, _ => rfl
theorem WInv.last {st : WSt} {n : Nat} (h : WInv st n) : 0 ≤ st.pile.getLastD 0 ∧ st.pile.getLastD 0 < st.words.length ∧ st.pile.getD (-1 + (st.pile.length : Int)).toNat 0 = st.pile.getLastD 0 := by
  have h0 := h.pl0
  have hne : st.pile ≠ [] := by intro q; rw [q] at h0; cases h0
  have e : st.pile.getLastD 0 = st.pile.getLast hne := by rw [List.getLastD_eq_getLast?, List.getLast?_eq_getLast hne]; rfl
  have hm := h.pile _ (List.getLast_mem hne)
  rw [e]
  refine ⟨hm.1, hm.2, ?_⟩
  have e2 : (-1 + (st.pile.length : Int)).toNat = st.pile.length - 1 := by omega
  rw [e2, List.getLast_eq_getElem, List.getD_eq_getElem?_getD, List.getElem?_eq_getElem (by omega)]
  rfl
theorem WInv.above {st : WSt} {n : Nat} (h : WInv st n) : ∃ x, st.words[(st.pile.getLastD 0).toNat]? = some x ∧ st.words.getD (st.pile.getLastD 0).toNat [] = x ∧ x.length = 5 ∧ ∀ j, n ≤ j → j < 5 → x[j]? = some (97 + j) := by
  have hl := h.last
  have hlt : (st.pile.getLastD 0).toNat < st.words.length := by omega
  have hw := h.wrd _ (List.getElem_mem hlt)
  refine ⟨_, List.getElem?_eq_getElem hlt, ?_, hw.1, hw.2⟩
  rw [List.getD_eq_getElem?_getD, List.getElem?_eq_getElem hlt]
  rfl
theorem wset {x : List Nat} {n c : Nat} (h : x.length = 5 ∧ ∀ j, n ≤ j → j < 5 → x[j]? = some (97 + j)) : (x.set n c).length = 5 ∧ ∀ j, n + 1 ≤ j → j < 5 → (x.set n c)[j]? = some (97 + j) := by
  refine ⟨by rw [List.length_set, h.1], fun j h1 h2 => ?_⟩
  rw [List.getElem?_set_ne (by omega)]
  exact h.2 j (by omega) h2
theorem wordStep0 {st : WSt} : wordStep st 0 = ⟨st.words, st.pile.take 1 ++ (st.pile.drop 1).dropLast⟩ := by simp [wordStep]
theorem wordStep1 {st : WSt} {n : Nat} {y : Int} {x : List Nat} (hw : st.words.length = 1 + n) (hx : st.words.getD (st.pile.getLastD 0).toNat [] = x) (h0 : y ≠ 0) (h1 : y < 256) : wordStep st y = ⟨st.words ++ [x.set n (65 + n)], st.pile⟩ := by
  have e : st.words.length - 1 = n := by omega
  simp only [wordStep, if_neg h0, if_pos h1, e, hx]
theorem wordStep2 {st : WSt} {n : Nat} {y : Int} {x : List Nat} (hw : st.words.length = 1 + n) (hx : st.words.getD (st.pile.getLastD 0).toNat [] = x) (h0 : y ≠ 0) (h1 : ¬ y < 256) : wordStep st y = ⟨st.words ++ [x.set n (48 + n)], st.pile ++ [1 + (n : Int)]⟩ := by
  have e : st.words.length - 1 = n := by omega
  have e2 : (st.words.length : Int) = 1 + (n : Int) := by omega
  simp only [wordStep, if_neg h0, if_neg h1, e, hx, e2]
theorem WInv.eof {st : WSt} {n : Nat} (h : WInv st n) : WInv ⟨st.words, st.pile.take 1 ++ (st.pile.drop 1).dropLast⟩ n := by
  have hp := h.pl0
  have hp2 := h.pl
  refine ⟨h.wl, ?_, ?_, ?_, h.wrd⟩
  · rw [List.length_append, List.length_take]; omega
  · rw [List.length_append, List.length_take, List.length_dropLast, List.length_drop]
    show _ ≤ st.words.length
    omega
  · intro q hq
    refine h.pile q ?_
    rcases List.mem_append.mp hq with hq | hq
    · exact List.mem_of_mem_take hq
    · exact List.mem_of_mem_drop ((List.dropLast_sublist _).subset hq)
theorem WInv.more {st : WSt} {n : Nat} {x : List Nat} (h : WInv st n) (hx : x.length = 5 ∧ ∀ j, n + 1 ≤ j → j < 5 → x[j]? = some (97 + j)) : WInv ⟨st.words ++ [x], st.pile⟩ (n + 1) := by
  have hw := h.wl
  refine ⟨?_, h.pl0, ?_, ?_, ?_⟩
  · show (st.words ++ [x]).length = _
    rw [List.length_append]; simp only [List.length_cons, List.length_nil]; omega
  · show _ ≤ (st.words ++ [x]).length
    rw [List.length_append]
    exact Nat.le_trans h.pl (Nat.le_add_right _ _)
  · intro q hq
    have := h.pile q hq
    refine ⟨this.1, ?_⟩
    show q < ((st.words ++ [x]).length : Int)
    rw [List.length_append]; simp only [List.length_cons, List.length_nil]; omega
  · intro z hz
    rcases List.mem_append.mp hz with hz | hz
    · exact ⟨(h.wrd z hz).1, fun j hj => (h.wrd z hz).2 j (by omega)⟩
    · rw [List.mem_singleton.mp hz]; exact hx
theorem WInv.push {st : WSt} {n : Nat} {x : List Nat} (h : WInv st n) (h' : WInv ⟨st.words ++ [x], st.pile⟩ (n + 1)) : WInv ⟨st.words ++ [x], st.pile ++ [1 + (n : Int)]⟩ (n + 1) := by
  have hw := h.wl
  have hp := h.pl
  have e : (st.words ++ [x]).length = 2 + n := by rw [List.length_append]; simp only [List.length_cons, List.length_nil]; omega
  refine ⟨h'.wl, ?_, ?_, ?_, h'.wrd⟩
  · show 0 < (st.pile ++ [1 + (n : Int)]).length
    rw [List.length_append]; simp
  · show (st.pile ++ [1 + (n : Int)]).length ≤ (st.words ++ [x]).length
    rw [e, List.length_append]; simp only [List.length_cons, List.length_nil]; omega
  · intro q hq
    rcases List.mem_append.mp hq with hq | hq
    · exact h'.pile q hq
    · rw [List.mem_singleton.mp hq]
      show 0 ≤ _ ∧ _ < ((st.words ++ [x]).length : Int)
      rw [e]
      omega
theorem str_at {n : Nat} (hn : n ≤ 4) : Str.ofString (toString (1 + (n : Int) - 1)) = S [48 + n] :=
  (by decide +kernel : ∀ n : Nat, n < 5 → Str.ofString (toString (1 + (n : Int) - 1)) = S [48 + n]) n (Nat.lt_succ_of_le hn)
theorem strs_snoc {vs : List Value} {xs : List (List Nat)} {x : List Nat} {t : Tok} (h : StrsAre vs (xs.map S)) : StrsAre (vs ++ [.str (S x) t]) ((xs ++ [x]).map S) := by
  rw [List.map_append]
  exact PyProof.Rows.StrsAre.append' h (.cons _ _ .nil)
local macro_rules | `(tactic| walk_at $s:str) => do if ["call builtin:list.append", "exec For Name Name cons nil", "call ref", "call builtin:len", "subscriptTail Name Slice ref ref", "subscriptTail Name Subscript ref int", "pyIter ref"].contains s.getString then `(tactic| refine Stop.mk ?_) else Lean.Macro.throwUnsupported
inductive WJ (st : WSt) (cnt : Nat) (W rr : Addr) (vs : List Value) (e : Nat) (news : Led) (m' : Fm) (news' : Led) : Prop
  | mk (P : Addr) (wvs pvs : List Value) (ew ep : Nat) (h0 : news' = (P, listOf pvs.toArray ep) :: (W, listOf wvs.toArray ew) :: (rr, listOf vs.toArray e) :: news) (h1 : @LT.lt Nat _ W P) (h2 : StrsAre wvs (st.words.map S)) (h3 : IntsAre pvs st.pile) (h4 : WInv st cnt) (h5 : m' "words" = some (.ref W)) (h6 : m' "pile" = some (.ref P)) : WJ st cnt W rr vs e news m' news'
section
variable {w : World} {p : Program} {loose : List Str} {mean : ExcName → Option Value} {mg mb : Fm} {dp un : Nat} {gd : Option (List Code)} {cn : Str} {cs : Scope} {a : Addr} {ccd : Value} {cl : List (Str × Addr)} {outer : List Env} {A₀ : Around} {base h₀ : Heap} {L : Addr} {m : Fm} {s : Shared} {Q E : Value → Shared → Prop} {news : Led}
theorem words_call {rr : Addr} {vs : List Value} {ns : List Int} {e : Nat}
   (B : Below A₀ base outer h₀) (F : Fr h₀ L s.heap m) (X : (hd.heap_39 w.params).In h₀) (N : News h₀ L s.heap ((rr, listOf vs.toArray e) :: news)) (T : Top p loose mean mg mb h₀) (hk : cs.kind = .function)
   (hI : IntsAre vs ns) (hl : (ns.filter (· ≠ 0)).length ≤ 5) (hl2 : ns.length ≤ 40) (hdp : dp + 4 < recursionLimit) (hu : un + 40 < cLine)
   (hret : ∀ (W : Addr) (wvs : List Value) (ew : Nat) (h' : Heap) (tk' : Nat), StrsAre wvs ((ns.foldl wordStep word0).words.map S) → Fr h₀ L h' m →
     News h₀ L h' ((W, listOf wvs.toArray ew) :: (rr, listOf vs.toArray e) :: news) → (∀ p ∈ news, p.1 < W) → Q (.ref W) { s with heap := h', toks := tk' }) :
   wpAny (model P0 w) (ktrTop dp un gd cn cs L a ccd cl outer) (call (.ref 105) [.ref rr]) Q E s := by
  refine wpAny_call ?_
  k_dflt cell_enter
  refine abs_all fun QF hQF => ?_
  (repeat' (first | (k_unfold; (try dsimp only)) | (walk1 <;> (try dsimp only)) | (dsimp only; walk1) | ((with_reducible rename Post _ _ => hP'); (with_reducible refine Post.of hP' ?_))))
  refine Stop.of ?_
  rename Fr _ _ _ _ => Fx
  rename News _ _ _ _ => Nx
  refine For_invVF Fx rfl rfl ?_
  (repeat' (first | (k_unfold; (try dsimp only)) | (walk1 <;> (try dsimp only)) | (dsimp only; walk1) | ((with_reducible rename Post _ _ => hP'); (with_reducible refine Post.of hP' ?_))))
  refine Stop.of ?_
  rename Fr _ _ _ _ => Fx
  rename News _ _ _ _ => Nx
  rename_i W _ lW _ _ P _ lP _
  obtain ⟨lW1, lW2⟩ := lW
  obtain ⟨lP1, lP2, lP3⟩ := lP
  have hl9 : vs.length = ns.length := hI.length
  have hnW : ∀ p ∈ news, p.1 ≠ W := allNe_of lW2 (Nat.le_refl _)
  refine loop_list (fun i => WJ ((ns.take i).foldl wordStep word0) ((ns.take i).filter (· ≠ 0)).length W rr vs e news)
    rfl (.tail _ (.tail _ (.head _))) Fx Nx ?_ ?_ ?_
  · exact ⟨P, [.str (S [97, 98, 99, 100, 101]) _], [.int 0 _], 0, 0, rfl, lP1, .cons _ _ .nil, .cons _ _ .nil, WInv.start, rfl, rfl⟩
  · rintro i v m₁ news₁ I oI h₂ tk₂ hvi ⟨P, wvs, pvs, ew, ep, rfl, hWP, hSw, hIp, hW, hwo, hpi⟩ hDm hnI F₁ N₁
    clear Fx Nx lP1 lP2 lP3
    have hil : i < ns.length := by
      have := (Array.getElem?_eq_some_iff.mp hvi).1
      rw [List.size_toArray] at this
      omega
    obtain ⟨y, hd⟩ : ∃ d, ns[i]? = some d := ⟨_, List.getElem?_eq_getElem hil⟩
    obtain ⟨td, htd⟩ := hI.get _ _ hd
    rw [List.getElem?_toArray, htd] at hvi
    cases hvi
    have htk : ns.take (i + 1) = ns.take i ++ [y] := by rw [List.take_add_one, hd]; rfl
    have hcnt : ((ns.take (i + 1)).filter (· ≠ 0)).length ≤ 5 := Nat.le_trans ((List.take_sublist (i + 1) ns).filter _).length_le hl
    rw [htk, List.filter_append, List.length_append] at hcnt
    have hn5 : ((ns.take i).filter (· ≠ 0)).length ≤ 5 := by omega
    have hny : y ≠ 0 → ((ns.take i).filter (· ≠ 0)).length ≤ 4 := by
      intro q
      have : ([y].filter (· ≠ 0)).length = 1 := by simp [q]
      omega
    clear hcnt
    rw [htk, List.foldl_append, List.filter_append, List.length_append]
    generalize (ns.take i).foldl wordStep word0 = st at *
    generalize ((ns.take i).filter (· ≠ 0)).length = n at *
    have hnIP : @Ne Nat P I := hnI _ (.head _)
    have hnIW : @Ne Nat W I := hnI _ (.tail _ (.head _))
    have hnID : @Ne Nat rr I := hnI _ (.tail _ (.tail _ (.head _)))
    obtain ⟨u2, F₂⟩ := fr_kstO [("symbol", .int y td), ("words", .ref W), ("pile", .ref P)] F₁ ⟨rfl, hwo, hpi, trivial⟩
    have N₂ := N₁
    clear F₁ N₁ hwo hpi
    dsimp only [kstB] at F₂
    have wl := hW.wl
    have pl0 := hW.pl0
    have pl := hW.pl
    refine abs_all fun QT1 hQT1 => ?_
    (repeat' (first | (k_unfold; (try dsimp only)) | (walk1 <;> (try dsimp only)) | (dsimp only; walk1) | ((with_reducible rename Post _ _ => hP'); (with_reducible refine Post.of hP' ?_))))
    refine Stop.of ?_
    rename Fr _ _ _ _ => Fx
    rename News _ _ _ _ => Nx
    k_dflt (refine iseof (by assumption) Fx (by assumption) Nx (by assumption) rfl (by show dp + 1 + 1 < recursionLimit; omega) (by show un + 3 + 8 < cLine; omega) ?_)
    intro h₃ tk₃ F₃ N₃
    clear Fx Nx
    (repeat' (first | (k_unfold; (try dsimp only)) | (walk1 <;> (try dsimp only)) | (dsimp only; walk1) | ((with_reducible rename Post _ _ => hP'); (with_reducible refine Post.of hP' ?_))))
    · refine Stop.of ?_
      rename Fr _ _ _ _ => Fx
      rename News _ _ _ _ => Nx
      rename y = 0 => hy0
      have hpz : pvs.toArray.size ≤ sizeLine := by rw [List.size_toArray, hIp.length, sizeLine_eq]; omega
      k_dflt (refine' kmk_slice_ints (s := ⟨_, _, _, _, _⟩) ?zF ?zN ?zl ?zp ?zq ?zi ?zm ?zc ?_ ?zs ?zt ?zz; (case zF => exact Fx); (case zN => exact Nx); (case zl => exact News.isList Nx (.tail _ (.head _))); (case zp => exact IsPart.none); (case zq => exact IsPart.int _ _); (case zi => exact hIp); (case zm => exact kmk_upto hIp (by decide)); (case zc => exact rfl); (case zs => with_unfolding_all rfl); (case zt => kmk_pure); (case zz => exact hpz))
      intro D₁ w₁ h₄ F₄ N₄ l₄ hI₄ hC₄ hL₄
      clear Fx Nx
      (repeat' (first | (k_unfold; (try dsimp only)) | (walk1 <;> (try dsimp only)) | (dsimp only; walk1) | ((with_reducible rename Post _ _ => hP'); (with_reducible refine Post.of hP' ?_))))
      refine Stop.of ?_
      rename Fr _ _ _ _ => Fx
      rename News _ _ _ _ => Nx
      k_dflt (refine' kmk_slice_ints (s := ⟨_, _, _, _, _⟩) ?zF ?zN ?zl ?zp ?zq ?zi ?zm ?zc ?_ ?zs ?zt ?zz; (case zF => exact Fx); (case zN => exact Nx); (case zl => exact News.isList Nx (.tail _ (.tail _ (.head _)))); (case zp => exact IsPart.int _ _); (case zq => exact IsPart.int _ _); (case zi => exact hIp); (case zm => exact kmk_run_neg hIp (by decide) (by decide)); (case zc => exact rfl); (case zs => with_unfolding_all rfl); (case zt => kmk_pure); (case zz => exact hpz))
      intro D₂ w₂ h₅ F₅ N₅ l₅ hI₅ hC₅ hL₅
      clear Fx Nx
      (repeat' (first | (k_unfold; (try dsimp only)) | (walk1 <;> (try dsimp only)) | (dsimp only; walk1) | ((with_reducible rename Post _ _ => hP'); (with_reducible refine Post.of hP' ?_))))
      rename_i D₃ w₃ _ hI₃ l₃ _ kF kN
      obtain ⟨l31, l32, l33, l34, l35, l36, l37⟩ := l₃
      subst hy0
      refine TurnEnd.next ((D₃, listOf w₃.toArray 0) :: (W, listOf wvs.toArray ew) :: (rr, listOf vs.toArray e) :: news) kF (news_sub kN ?_) ?_ ?_ ?_
      · intro p hp
        simp only [List.mem_cons] at hp ⊢
        rcases hp with h | h | h | h | h <;> simp [h]
      · intro p hp
        simp only [List.mem_cons] at hp
        rcases hp with rfl | rfl | rfl | hp
        · show @Ne Nat D₃ I; omega
        · exact hnIW
        · exact hnID
        · exact hnI p (.tail _ (.tail _ (.tail _ hp)))
      · intro p hp
        rw [List.mem_singleton.mp hp]
        exact .tail _ (.tail _ (.head _))
      · refine ⟨D₃, wvs, w₃, ew, 0, rfl, l35, ?_, ?_, ?_, rfl, rfl⟩
        · rw [List.foldl_cons, List.foldl_nil, wordStep0]; exact hSw
        · rw [List.foldl_cons, List.foldl_nil, wordStep0]
          have e9 : st.pile.take 1 ++ (st.pile.drop 1).dropLast = st.pile.take (Int.toNat 1) ++ (st.pile.drop (Int.toNat 1)).take (st.pile.length - (- -1 : Int).toNat - Int.toNat 1) := by
            rw [List.dropLast_eq_take, List.length_drop]
            rfl
          rw [e9]
          exact hI₃
        · rw [List.foldl_cons, List.foldl_nil, wordStep0]
          exact hW.eof
    · refine Stop.of ?_
      rename Fr _ _ _ _ => Fx
      rename News _ _ _ _ => Nx
      rename y ≠ 0 => hy0
      have hn4 := hny hy0
      have hwz : wvs.length = 1 + n := by rw [hSw.length, List.length_map, wl]
      refine kun_lenL (k := 1 + (n : Int)) (News.isList Nx (.tail _ (.tail _ (.head _)))) (by rw [List.size_toArray, hwz]; omega) (by omega) ?_
      (repeat' (first | (k_unfold; (try dsimp only)) | (walk1 <;> (try dsimp only)) | (dsimp only; walk1) | ((with_reducible rename Post _ _ => hP'); (with_reducible refine Post.of hP' ?_))))
      refine Stop.of ?_
      rename Fr _ _ _ _ => Fx
      rename News _ _ _ _ => Nx
      obtain ⟨hq0, hq1, hlast⟩ := hW.last
      obtain ⟨xw, hxw, hxw2, hx5', hxa⟩ := hW.above
      rw [hlast]
      obtain ⟨tx, htx⟩ := hSw.at (j := (st.pile.getLastD 0).toNat) (y := S xw) (by rw [List.getElem?_map, hxw]; rfl)
      refine item_listL (News.isList Nx (.tail _ (.tail _ (.head _)))) hq0 (by omega) htx ?_
      have hx5 : (S xw).length = 5 := by rw [S_len, hx5']
      have hxn : xw[n]? = some (97 + n) := hxa n (Nat.le_refl _) (by omega)
      have hf1 : ([y].filter (· ≠ 0)).length = 1 := by simp [hy0]
      have hneW : ∀ p ∈ (rr, listOf vs.toArray e) :: news, p.1 ≠ W := by
        intro p hp
        refine neN ?_
        rcases List.mem_cons.mp hp with rfl | hp
        · show @Ne Nat rr W; omega
        · exact hnW p hp
      (repeat' (first | (k_unfold; (try dsimp only)) | (walk1 <;> (try dsimp only)) | (dsimp only; walk1) | ((with_reducible rename Post _ _ => hP'); (with_reducible refine Post.of hP' ?_))))
      refine Stop.of ?_
      rename Fr _ _ _ _ => Fx
      rename News _ _ _ _ => Nx
      k_dflt (refine isterm (by assumption) Fx (by assumption) Nx (by assumption) rfl (by show dp + 1 + 1 < recursionLimit; omega) (by show un + 3 + 8 < cLine; omega) ?_)
      intro h₅ tk₅ F₅ N₅
      clear Fx Nx
      (repeat' (first | (k_unfold; (try dsimp only)) | (walk1 <;> (try dsimp only)) | (dsimp only; walk1) | ((with_reducible rename Post _ _ => hP'); (with_reducible refine Post.of hP' ?_))))
      · refine Stop.of ?_
        rename Fr _ _ _ _ => Fx
        rename News _ _ _ _ => Nx
        rename y < 256 => hy1
        rw [word_text (c := 65 + n) hx5' hn4 (upper_at hxn hn4)]
        refine append_K Fx Nx (Upd.tail (show @Ne Nat I W by omega) (Upd.tail (show @Ne Nat P W by omega) (Upd.head hneW))) ?_ (by rw [List.size_toArray, sizeLine_eq]; omega)
        intro h₆ F₆ N₆
        rw [List.push_toArray] at N₆
        clear Fx Nx
        (repeat' (first | (k_unfold; (try dsimp only)) | (walk1 <;> (try dsimp only)) | (dsimp only; walk1) | ((with_reducible rename Post _ _ => hP'); (with_reducible refine Post.of hP' ?_))))
        refine Stop.of ?_
        rename Fr _ _ _ _ => Fx
        rename News _ _ _ _ => Nx
        k_dflt (refine isnont (by assumption) Fx (by assumption) Nx (by assumption) rfl (by show dp + 1 + 1 < recursionLimit; omega) (by show un + 3 + 8 < cLine; omega) ?_)
        intro h₇ tk₇ F₇ N₇
        clear Fx Nx
        (repeat' (first | (k_unfold; (try dsimp only)) | (walk1 <;> (try dsimp only)) | (dsimp only; walk1) | ((with_reducible rename Post _ _ => hP'); (with_reducible refine Post.of hP' ?_))))
        refine TurnEnd.next _ (by assumption) (by assumption) ?_ ?_ ?_
        · intro p hp
          simp only [List.mem_cons] at hp
          rcases hp with rfl | rfl | rfl | hp
          · exact hnIP
          · exact hnIW
          · exact hnID
          · exact hnI p (.tail _ (.tail _ (.tail _ hp)))
        · intro p hp
          rw [List.mem_singleton.mp hp]
          exact .tail _ (.tail _ (.head _))
        · refine ⟨P, _, pvs, _, ep, rfl, hWP, ?_, ?_, ?_, rfl, rfl⟩
          · rw [List.foldl_cons, List.foldl_nil, wordStep1 wl hxw2 hy0 hy1]; exact strs_snoc hSw
          · rw [List.foldl_cons, List.foldl_nil, wordStep1 wl hxw2 hy0 hy1]; exact hIp
          · rw [List.foldl_cons, List.foldl_nil, wordStep1 wl hxw2 hy0 hy1, hf1]
            exact hW.more (wset ⟨hx5', hxa⟩)
      · refine Stop.of ?_
        rename Fr _ _ _ _ => Fx
        rename News _ _ _ _ => Nx
        rename ¬ y < 256 => hy1
        k_dflt (refine isnont (by assumption) Fx (by assumption) Nx (by assumption) rfl (by show dp + 1 + 1 < recursionLimit; omega) (by show un + 3 + 8 < cLine; omega) ?_)
        intro h₇ tk₇ F₇ N₇
        clear Fx Nx
        (repeat' (first | (k_unfold; (try dsimp only)) | (walk1 <;> (try dsimp only)) | (dsimp only; walk1) | ((with_reducible rename Post _ _ => hP'); (with_reducible refine Post.of hP' ?_))))
        refine Stop.of ?_
        rename Fr _ _ _ _ => Fx
        rename News _ _ _ _ => Nx
        rw [word_text (c := 48 + n) hx5' hn4 (str_at hn4)]
        refine append_K Fx Nx (Upd.tail (show @Ne Nat I W by omega) (Upd.tail (show @Ne Nat P W by omega) (Upd.head hneW))) ?_ (by rw [List.size_toArray, sizeLine_eq]; omega)
        intro h₆ F₆ N₆
        rw [List.push_toArray] at N₆
        clear Fx Nx
        (repeat' (first | (k_unfold; (try dsimp only)) | (walk1 <;> (try dsimp only)) | (dsimp only; walk1) | ((with_reducible rename Post _ _ => hP'); (with_reducible refine Post.of hP' ?_))))
        refine Stop.of ?_
        rename Fr _ _ _ _ => Fx
        rename News _ _ _ _ => Nx
        refine kun_lenL (k := 2 + (n : Int)) (News.isList Nx (.tail _ (.tail _ (.head _)))) (by rw [List.size_toArray, List.length_append, hwz]; simp only [List.length_cons, List.length_nil]; omega) (by omega) ?_
        (repeat' (first | (k_unfold; (try dsimp only)) | (walk1 <;> (try dsimp only)) | (dsimp only; walk1) | ((with_reducible rename Post _ _ => hP'); (with_reducible refine Post.of hP' ?_))))
        refine Stop.of ?_
        rename Fr _ _ _ _ => Fx
        rename News _ _ _ _ => Nx
        have hneP : ∀ (o : Obj), ∀ p ∈ (W, o) :: (rr, listOf vs.toArray e) :: news, p.1 ≠ P := by
          intro o p hp
          simp only [List.mem_cons] at hp
          refine neN ?_
          rcases hp with rfl | rfl | hp
          · show @Ne Nat W P; omega
          · show @Ne Nat rr P; omega
          · exact allNe_of lW2 (Nat.le_of_lt hWP) p hp
        refine append_K Fx Nx (Upd.tail (show @Ne Nat I P by omega) (Upd.head (hneP _))) ?_ (by rw [List.size_toArray, sizeLine_eq, hIp.length]; omega)
        intro h₈ F₈ N₈
        rw [List.push_toArray] at N₈
        clear Fx Nx
        (repeat' (first | (k_unfold; (try dsimp only)) | (walk1 <;> (try dsimp only)) | (dsimp only; walk1) | ((with_reducible rename Post _ _ => hP'); (with_reducible refine Post.of hP' ?_))))
        refine TurnEnd.next _ (by assumption) (by assumption) ?_ ?_ ?_
        · intro p hp
          simp only [List.mem_cons] at hp
          rcases hp with rfl | rfl | rfl | hp
          · exact hnIP
          · exact hnIW
          · exact hnID
          · exact hnI p (.tail _ (.tail _ (.tail _ hp)))
        · intro p hp
          rw [List.mem_singleton.mp hp]
          exact .tail _ (.tail _ (.head _))
        · refine ⟨P, _, _, _, _, rfl, hWP, ?_, ?_, ?_, rfl, rfl⟩
          · rw [List.foldl_cons, List.foldl_nil, wordStep2 wl hxw2 hy0 hy1]; exact strs_snoc hSw
          · rw [List.foldl_cons, List.foldl_nil, wordStep2 wl hxw2 hy0 hy1, show (1 + (n : Int)) = 2 + (n : Int) - 1 by omega]; exact hIp.append (.cons _ _ .nil)
          · rw [List.foldl_cons, List.foldl_nil, wordStep2 wl hxw2 hy0 hy1, hf1]
            exact hW.push (hW.more (wset ⟨hx5', hxa⟩))
  · rintro m₁ news₁ h₂ tk₂ ⟨P, wvs, pvs, ew, ep, rfl, hWP, hSw, hIp, hW, hwo, hpi⟩ hDm F₁ N₁
    clear Fx Nx
    rw [List.size_toArray, hl9, List.take_length] at hSw
    obtain ⟨u2, F₂⟩ := fr_kstO [("words", .ref W)] F₁ ⟨hwo, trivial⟩
    have N₂ := N₁
    clear F₁ N₁ hwo hpi
    dsimp only [kstB] at F₂
    (repeat' (first | (k_unfold; (try dsimp only)) | (walk1 <;> (try dsimp only)) | (dsimp only; walk1) | ((with_reducible rename Post _ _ => hP'); (with_reducible refine Post.of hP' ?_))))
    exact hret W wvs ew _ _ hSw (by assumption) (news_sub (by assumption) fun p hp => .tail _ hp) (ktn_ltOf lW2)
end
end Mine

set_option maxHeartbeats 1000000
namespace Mine
section
variable {prog : Program} {w : World} {A : Around} {E : Value → Shared → Prop} {Q : Flow → Shared → Prop} {s : Shared} {env : Env} {h₀ : Heap} {x : Str} {body : List Stmt}
/-- a loop over a range whose target is stored by storeName, whatever its kind -/
inductive LoopAtS (prog : Program) (w : World) (A : Around) (h₀ : Heap) (env : Env) (x : Str) (body : List Stmt) (Q : Flow → Shared → Prop) (E : Value → Shared → Prop) (it : Value) (s : Shared) : Prop
  | mk (I : Addr) (a₀ : Int) (n : Nat) (m : Fm) (news : Led) (J : Nat → Fm → Led → Prop) (e : it = .ref I) (hh : A.handled = none) (hI : IsRangeIter s.heap I a₀ n 1) (hIL : I ≠ env.locals) (hI₀ : h₀.get? I = none)
    (F : Fr h₀ env.locals s.heap m) (N : News h₀ env.locals s.heap news) (hnI : ∀ p ∈ news, p.1 ≠ I) (hJ : J 0 m news)
    (turn : ∀ i t m₁ news₁ oI h tk, i < n → J i m₁ news₁ → (∀ p ∈ news₁, p.1 ≠ I) → Fr h₀ env.locals h m₁ → News h₀ env.locals h ((I, oI) :: news₁) →
      wpAny (model prog w) A (storeName env x (.int (a₀ + (i : Int)) t)) (fun _ s₂ => wpAny (model prog w) A (execs body env) (TurnEnd h₀ env.locals I oI [] (J (i + 1)) s Q) E s₂) E { s with heap := h, toks := tk })
    (done : ∀ m₁ news₁ h tk, J n m₁ news₁ → Fr h₀ env.locals h m₁ → News h₀ env.locals h news₁ → Q .next { s with heap := h, toks := tk }) : LoopAtS prog w A h₀ env x body Q E it s
inductive FSt (h₀ : Heap) (L I : Addr) (a₀ : Int) (n : Nat) (J : Nat → Fm → Led → Prop) (s₂ : Shared) (k : Nat) (s' : Shared) : Prop
  | mk (h' : Heap) (tk : Nat) (m' : Fm) (news' : Led) (i : Nat) (e : s' = { s₂ with heap := h', toks := tk }) (hI : IsRangeIter h' I (a₀ + (i : Nat) * 1) ((n : Int) - (i : Nat)) 1) (F : Fr h₀ L h' m') (N : News h₀ L h' news') (hn : ∀ p ∈ news', p.1 ≠ I) (hJ : J i m' news') (hi : i ≤ n) (hk : k = n + 1 - i) : FSt h₀ L I a₀ n J s₂ k s'
theorem For_store {px pos : Pos} {iter : Expr} 
    (h : wpAny (model prog w) A (eval iter env) (fun xv s₁ => wpAny (model prog w) A (pyIter xv) (fun it s₂ => LoopAtS prog w A h₀ env x body Q E it s₂) E s₁) E s)
    (hs : ∀ x, foldedSetIterable iter env x = pure x := by intro _; rfl)
    (hE : PassesOwn (model prog w) A env E := by passes_own) :
    wpAny (model prog w) A (exec (.For (.Name x px) iter body [] pos) env) Q E s := by
  refine wpAny_For (wpAny_mono h (fun xv s₁ h₁ => wpAny_mono h₁ (fun it s₂ h₂ => ?_) fun _ _ e => e) fun _ _ e => e) hs
  obtain ⟨I, a₀, n, m, news, J, rfl, hh, hI, hIL, hI₀, F, N, hnI, hJ, turn, done⟩ := h₂
  have W := (Walks.range (prog := prog) (w := w) (A := A) hh I a₀ 1 n).bound
  refine codeAny_forLoop (FSt h₀ env.locals I a₀ n J s₂) ?_ (n + 1)
    ⟨s₂.heap, s₂.toks, m, news, 0, rfl, by simpa using hI, F, N, hnI, hJ, Nat.zero_le _, rfl⟩
  rintro k s' ⟨h', tk, m', news', i, rfl, hst', F', N', hnI', hJ', hi, rfl⟩
  have next : ∀ h₁ : Heap, (∀ b o, b ∉ [I] → h'.get? b = some o → h₁.get? b = some o) → Fr h₀ env.locals h₁ m' ∧ News h₀ env.locals h₁ news' := fun h₁ hk₁ =>
    ⟨⟨F'.ns.at' fun o e => hk₁ _ o (fun q => hIL (List.mem_singleton.mp q).symm) e, fun b o e => hk₁ b o (fun q => by rw [List.mem_singleton.mp q, hI₀] at e; cases e) (F'.keep b o e), F'.above⟩, fun p hp => ⟨hk₁ _ _ (fun q => hnI' p hp (List.mem_singleton.mp q)) (N' p hp).1, (N' p hp).2⟩⟩
  by_cases hlt : i < n
  · refine W.item i _ _ _ hlt hst' fun v h₁ tk₁ hP hst₁ hk₁ => ?_
    obtain ⟨_, t, rfl⟩ := hP
    obtain ⟨F₁, N₁⟩ := next h₁ hk₁
    obtain ⟨oI, hoI⟩ : ∃ o, h₁.get? I = some o := ⟨_, hst₁⟩
    have N₂ : News h₀ env.locals h₁ ((I, oI) :: news') := news_cons hoI hIL hI₀ N₁
    rw [Int.mul_one]
    refine wpAny_assign_Name (wpAny_passesOwn hE (wpAny_mono (turn i t m' news' oI h₁ tk₁ hlt hJ' hnI' F₁ N₂) (fun _ s₃ h₃ => wpAny_passesOwn hE (wpAny_mono h₃ (fun f s₄ h₄ => ?_) fun _ _ e => e)) fun _ _ e => e))
    have fin : TurnNx h₀ env.locals I oI [] (J (i + 1)) s₂.gens s₂.drawn s₂.os s₄ →
        ∃ k, k < n + 1 - i ∧ FSt h₀ env.locals I a₀ n J s₂ k s₄ := by
      rintro ⟨h₅, tk₅, m₅, news₅, rfl, F₅, N₅, hI₅, _, hJ₅⟩
      refine ⟨n + 1 - (i + 1), Nat.sub_lt_sub_left (Nat.lt_succ_of_lt hlt) (Nat.lt_succ_self i), h₅, tk₅, m₅, news₅, i + 1, rfl, ?_, F₅, fun p hp => N₅ p (.tail _ hp), hI₅, hJ₅, hlt, rfl⟩
      exact (N₅ _ (.head _)).1.trans (hoI.symm.trans hst₁)
    cases f with
    | ret v => exact h₄
    | brk => exact h₄
    | next => exact fin h₄
    | cont => exact fin h₄
  · obtain rfl : i = n := Nat.le_antisymm hi (Nat.not_lt.mp hlt)
    refine W.done _ _ _ hst' fun h₁ tk₁ hk₁ => wpAny_execs_nil ?_
    obtain ⟨F₁, N₁⟩ := next h₁ hk₁
    exact done m' news' h₁ tk₁ hJ' F₁ N₁
theorem loop_rangeS {r : Addr} {a₀ b₀ : Int} {t₀ u₀ v₀ : Tok} {m : Fm} {news : Led} (n : Nat) (J : Nat → Fm → Led → Prop)
    (hh : A.handled = none) (hr : IsRange s.heap r a₀ b₀ 1 t₀ u₀ v₀) (hsmall : Builtin.Range.small a₀ b₀ 1 = true) (hn : Builtin.Range.rangeSize a₀ b₀ 1 = (n : Int)) (F : Fr h₀ env.locals s.heap m) (N : News h₀ env.locals s.heap news) (hJ : J 0 m news)
    (turn : ∀ i t m₁ news₁ I oI h tk, i < n → J i m₁ news₁ → (∀ p ∈ news₁, p.1 ≠ I) → (∀ p ∈ news, p.1 < I) → Fr h₀ env.locals h m₁ → News h₀ env.locals h ((I, oI) :: news₁) →
      wpAny (model prog w) A (storeName env x (.int (a₀ + (i : Int)) t)) (fun _ s₂ => wpAny (model prog w) A (execs body env) (TurnEnd h₀ env.locals I oI [] (J (i + 1)) s Q) E s₂) E { s with heap := h, toks := tk })
    (done : ∀ m₁ news₁ h tk, J n m₁ news₁ → Fr h₀ env.locals h m₁ → News h₀ env.locals h news₁ → Q .next { s with heap := h, toks := tk }) :
    wpAny (model prog w) A (pyIter (.ref r)) (fun it s₂ => LoopAtS prog w A h₀ env x body Q E it s₂) E s := by
  refine wpAny_pyIter_range hr hsmall ?_
  refine ⟨s.heap.objs.size, a₀, n, m, news, J, rfl, hh, (by show IsRangeIter _ _ _ _ _; rw [hn]; exact Heap.get?_push_size _ rfl), fun q => absurd F.ns.lt (q ▸ Nat.lt_irrefl _), next_is_new F, F.push _, fun p hp => ⟨Heap.get?_push_of_some _ (N p hp).1, (N p hp).2⟩, ?_, hJ, ?_, ?_⟩
  · intro p hp hI; exact absurd (Heap.lt_size (N p hp).1) (hI ▸ Nat.lt_irrefl _)
  · intro i t m₁ news₁ oI h tk hi hJ₁ hnI F₁ N₁
    exact turn i t m₁ news₁ _ oI h tk hi hJ₁ hnI (fun p hp => Heap.lt_size (N p hp).1) F₁ N₁
  · intro m₁ news₁ h tk hJ₁ F₁ N₁
    exact done m₁ news₁ h tk hJ₁ F₁ N₁
end
end Mine

set_option maxHeartbeats 1000000
namespace Mine
/-- lists of ints behind a list of references: the references, their ledger, the table -/
inductive Rws : List Value → Led → List (List Int) → Prop
  | nil : Rws [] [] []
  | cons {r : Addr} {vs : List Value} {ns : List Int} {e : Nat} {refs : List Value} {led : Led} {M : List (List Int)} (h : IntsAre vs ns) (t : Rws refs led M) :
      Rws (.ref r :: refs) ((r, listOf vs.toArray e) :: led) (ns :: M)
theorem Rws.len {refs : List Value} {led : Led} {M : List (List Int)} (h : Rws refs led M) : refs.length = M.length := by
  induction h with
  | nil => rfl
  | cons _ _ ih => rw [List.length_cons, List.length_cons, ih]
theorem Rws.app {refs refs' : List Value} {led led' : Led} {M M' : List (List Int)} (h : Rws refs led M) (h' : Rws refs' led' M') : Rws (refs ++ refs') (led ++ led') (M ++ M') := by
  induction h with
  | nil => exact h'
  | cons h _ ih => exact .cons h ih
theorem Rws.drop {refs : List Value} {led : Led} {M : List (List Int)} (h : Rws refs led M) : ∀ k, Rws (refs.drop k) (led.drop k) (M.drop k) := by
  induction h with
  | nil => intro k; rw [List.drop_nil, List.drop_nil, List.drop_nil]; exact .nil
  | cons h t ih =>
    intro k
    cases k with
    | zero => exact .cons h t
    | succ k => exact ih k
theorem Rws.one {r : Addr} {vs : List Value} {ns : List Int} {e : Nat} (h : IntsAre vs ns) : Rws [.ref r] [(r, listOf vs.toArray e)] [ns] := .cons h .nil
theorem Rws.get {refs : List Value} {led : Led} {M : List (List Int)} (h : Rws refs led M) : ∀ {i : Nat} {ns : List Int}, M[i]? = some ns → ∃ r e vs, refs[i]? = some (.ref r) ∧ (r, listOf (List.toArray vs) e) ∈ led ∧ IntsAre vs ns := by
  induction h with
  | nil => intro i ns h; rw [List.getElem?_nil] at h; exact absurd h.symm (Option.some_ne_none _)
  | cons hI t ih =>
    intro i ns h
    cases i with
    | zero => exact ⟨_, _, _, rfl, .head _, Option.some.inj h ▸ hI⟩
    | succ i =>
      obtain ⟨r, e, vs, h1, h2, h3⟩ := ih (i := i) (ns := ns) h
      exact ⟨r, e, vs, h1, .tail _ h2, h3⟩
theorem upd_front {d : Addr} {o o' : Obj} {l l' r : Led} (h : Upd d o o' l l') (hr : ∀ p ∈ r, p.1 ≠ d) : Upd d o o' (l ++ r) (l' ++ r) := by
  induction h with
  | head h => exact .head fun p hp => (List.mem_append.mp hp).elim (h p) (hr p)
  | tail h _ ih => exact .tail h ih
theorem upd_back {d : Addr} {o o' : Obj} {l l' : Led} (h : Upd d o o' l l') {r : Led} (hr : ∀ p ∈ r, p.1 ≠ d) : Upd d o o' (r ++ l) (r ++ l') := by
  induction r with
  | nil => exact h
  | cons p r ih => exact .tail (hr p (.head _)) (ih fun q hq => hr q (.tail _ hq))
theorem off1_mem {D : Addr} {l : Led} (h : LCg.Off1 D l) : ∀ p ∈ l, @Ne Nat p.1 D := by
  induction l with
  | nil => exact all_nil
  | cons q r ih => exact all_cons h.1 (ih h.2)
/-- one row is changed -/
theorem Rws.upd {refs : List Value} {led : Led} {M : List (List Int)} (h : Rws refs led M) : (led.map (·.1)).Nodup → ∀ {i : Nat} {ns : List Int}, M[i]? = some ns →
    ∃ r e vs, refs[i]? = some (.ref r) ∧ (r, listOf (List.toArray vs) e) ∈ led ∧ IntsAre vs ns ∧ ∀ (vs' : List Value) (ns' : List Int) (e' : Nat), IntsAre vs' ns' →
      ∃ led', Upd r (listOf vs.toArray e) (listOf vs'.toArray e') led led' ∧ Rws refs led' (M.set i ns') ∧ led'.map (·.1) = led.map (·.1) := by
  induction h with
  | nil => intro _ i ns h; rw [List.getElem?_nil] at h; exact absurd h.symm (Option.some_ne_none _)
  | cons hI t ih =>
    rename_i r₀ _ _ _ _ led _
    intro hn i ns h
    rw [List.map_cons, List.nodup_cons] at hn
    cases i with
    | zero =>
      refine ⟨_, _, _, rfl, .head _, Option.some.inj h ▸ hI, fun vs' ns' e' hI' => ⟨(r₀, listOf vs'.toArray e') :: led, .head fun p hp q => ?_, .cons hI' t, rfl⟩⟩
      exact hn.1 (by rw [show r₀ = p.1 from q.symm]; exact List.mem_map_of_mem (f := (·.1)) hp)
    | succ i =>
      obtain ⟨r, e, vs, h1, h2, h3, h4⟩ := ih hn.2 (i := i) (ns := ns) h
      refine ⟨r, e, vs, h1, .tail _ h2, h3, fun vs' ns' e' hI' => ?_⟩
      obtain ⟨led', hU, hR, hm⟩ := h4 vs' ns' e' hI'
      exact ⟨_ :: led', .tail (fun q => hn.1 (by rw [show r₀ = r from q]; exact List.mem_map_of_mem (f := (·.1)) h2)) hU, .cons hI hR, by rw [List.map_cons, List.map_cons, hm]⟩
section
variable {prog : Program} {w : World} {A : Around} {s : Shared} {h₀ : Heap} {L : Addr} {m : Fm} {env : Env} {elt : Expr} {x : Str} {scope : Scope} {cl : List (Str × Addr)} {Sr : Led → Prop} {P : Nat → Value → Prop} {Fin : List Value → Led → Prop} {n : Nat}
/-- a comprehension by an invariant -/
theorem compRest_inv (J : Nat → List Value → Led → Prop)
    (step : ∀ i ys nw, i < n → J i ys nw → ∀ v I oI C oC D m₂ h tk (E' : Value → Shared → Prop), P i v → LCg.NsObj oC m₂ → m₂ x = some v → Fr h₀ L h m → News h₀ L h ((I, oI) :: (C, oC) :: (D, LCg.lst ys) :: nw) → LCg.Off3 I C D nw → ((@Ne Nat I C) ∧ (@Ne Nat I D) ∧ (@Ne Nat C D)) →
      wpAny (model prog w) A (eval elt (compEnvC scope cl C env)) (LCg.CompEnd h₀ L m { s with heap := h, toks := tk } I oI C oC D (LCg.lst ys) Sr (fun y nw' => J (i + 1) (ys ++ [y]) nw')) E' { s with heap := h, toks := tk })
    (fin : ∀ ys nw, J n ys nw → Fin ys nw) : ∀ k i ys nw, i + k = n → J i ys nw → LCg.CompRest prog w A h₀ L m env elt x scope cl s Sr P Fin k i ys nw := by
  intro k
  induction k with
  | zero => exact fun i ys nw hi hJ => LCg.CompRest.zero (fin ys nw (by rw [← hi]; exact hJ))
  | succ k ih =>
    intro i ys nw hi hJ
    refine LCg.CompRest.succ fun v I oI C oC D m₂ h tk E' hP hN hx F N hO hne => wpAny_mono (step i ys nw (by omega) hJ v I oI C oC D m₂ h tk E' hP hN hx F N hO hne) (fun y s₂ hy => ?_) fun _ _ e => e
    obtain ⟨h', tk', nw', hs, F', N', hO', hS', hJ'⟩ := hy
    exact ⟨h', tk', nw', hs, F', N', hO', hS', ih (i + 1) (ys ++ [y]) nw' (by omega) hJ'⟩
end
end Mine

set_option maxHeartbeats 1000000
namespace Mine
section
variable {M : Model} {A : Around} {E : Value → Shared → Prop} {s : Shared}
theorem newFunctionEnv_comp {scope : Scope} {globals : Addr} {closure : List (Str × Addr)} {qual : Str} {env : Env} {Q : Env → Shared → Prop}
    (hQ : Q { scope, locals := s.heap.objs.size, globals, cells := cellsFrom (s.heap.objs.size + 1) scope.names closure, qual, func := none, code := env.code, frame := env.frame, builtins := env.builtins }
      { s with heap := pushCells (s.heap.push { cls := .type "dict", data := .dict #[] }) scope.names }) :
    wpAny M A (newFunctionEnv scope globals closure [] qual none .none (some env)) Q E s := by
  simp only [newFunctionEnv, Option.isSome_some, if_true]
  refine wpAny_bind (wpAny_alloc ?_)
  refine wpAny_bind (wpAny_layCells _ (fun name kind cells => by cases kind == NameKind.cell <;> simp) _ _ _ _ ?_)
  rw [show ({ s with heap := s.heap.push { cls := .type "dict", data := .dict #[] } } : Shared).heap.objs.size = s.heap.objs.size + 1 from Heap.size_push ..]
  rw [List.forIn_nil]
  exact wpAny_bind (wpAny_pure (wpAny_pure hQ))
end
noncomputable abbrev cellObj : Obj := { cls := .type "cell", data := .cell none }
section
variable {prog : Program} {w : World} {A : Around} {E : Value → Shared → Prop} {s : Shared} {h₀ : Heap} {L : Addr} {m : Fm} {env : Env} {elt iter : Expr} {x : Str} {px pos : Pos} {scope : Scope} {cl : List (Str × Addr)} {n : Nat}
noncomputable def Off4 (I C K D : Addr) (nw : Led) : Prop := ∀ p ∈ nw, p.1 ≠ I ∧ p.1 ≠ C ∧ p.1 ≠ K ∧ p.1 ≠ D
inductive CellEnd (h₀ : Heap) (L : Addr) (m : Fm) (s₁ : Shared) (I : Addr) (oI : Obj) (C : Addr) (oC : Obj) (K : Addr) (oK : Obj) (D : Addr) (oD : Obj) (rest : Value → Led → Prop) (y : Value) (s₂ : Shared) : Prop
  | mk (h' : Heap) (tk : Nat) (nw : Led) (e : s₂ = { s₁ with heap := h', toks := tk }) (F : Fr h₀ L h' m) (N : News h₀ L h' ((I, oI) :: (C, oC) :: (K, oK) :: (D, oD) :: nw)) (hO : Off4 I C K D nw) (hr : rest y nw) : CellEnd h₀ L m s₁ I oI C oC K oK D oD rest y s₂
theorem news_other {h h' : Heap} {d : Addr} {nw : Led} (N : News h₀ L h nw) (hk : ∀ b o, b ≠ d → h.get? b = some o → h'.get? b = some o) (off : ∀ p ∈ nw, p.1 ≠ d) : News h₀ L h' nw :=
  fun p hp => ⟨hk _ _ (off p hp) (N p hp).1, (N p hp).2⟩
inductive BSt (h₀ : Heap) (L : Addr) (m : Fm) (I C K D : Addr) (oC : Obj) (a : Int) (n : Nat) (J : Nat → List Value → Led → Prop) (s₂ : Shared) (k : Nat) (s' : Shared) : Prop
  | mk (h' : Heap) (tk i : Nat) (ys : List Value) (oK : Obj) (v : Option Value) (nw : Led) (e : s' = { s₂ with heap := h', toks := tk }) (hi : i ≤ n) (hk : k = n + 1 - i) (hl : ys.length = i) (hI : IsRangeIter h' I (a + ((i : Nat) : Int) * 1) ((n : Int) - (i : Nat)) 1) (F : Fr h₀ L h' m) (dK : oK.data = .cell v)
    (N : News h₀ L h' ((C, oC) :: (K, oK) :: (D, LCg.lst ys) :: nw)) (hO : Off4 I C K D nw) (hJ : J i ys nw) : BSt h₀ L m I C K D oC a n J s₂ k s'
structure Ap4 (h₀ : Heap) (L I C K D : Addr) : Prop where
  IL : I ≠ L
  CL : C ≠ L
  KL : K ≠ L
  DL : D ≠ L
  IC : I ≠ C
  IK : I ≠ K
  ID : I ≠ D
  CK : C ≠ K
  DC : D ≠ C
  DK : D ≠ K
  I0 : h₀.get? I = none
  C0 : h₀.get? C = none
  K0 : h₀.get? K = none
  D0 : h₀.get? D = none
theorem block_loop {s₂ : Shared} {H3 : Heap} {I C K D : Addr} {oC : Obj} {a : Int} {nw₀ : Led} {RR : Result → Shared → Prop} (J : Nat → List Value → Led → Prop)
    (hh : A.handled = none) (hsz : n ≤ sizeLine) (hkind : scope.kind = .function) (hx : (compEnvC scope cl 0 env).kindOf x = some .cell) (ap : Ap4 h₀ L I C K D)
    (st₃ : IsRangeIter H3 I (a + ((0 : Nat) : Int) * 1) ((n : Int) - ((0 : Nat) : Int)) 1) (F : Fr h₀ L H3 m) (N₃ : News h₀ L H3 ((C, oC) :: (K, cellObj) :: (D, LCg.lst []) :: nw₀)) (off₀ : Off4 I C K D nw₀) (hJ : J 0 [] nw₀)
    (turn : ∀ i ys nw, i < n → J i ys nw → ∀ t I oI C oC K oK D h tk (E' : Value → Shared → Prop), oK.data = .cell (some (.int (a + (i : Int)) t)) → Fr h₀ L h m → News h₀ L h ((I, oI) :: (C, oC) :: (K, oK) :: (D, LCg.lst ys) :: nw) → Off4 I C K D nw →
      wpAny (model prog w) A (eval elt (compEnvC scope ((x, K) :: cl) C env)) (CellEnd h₀ L m { s₂ with heap := h, toks := tk } I oI C oC K oK D (LCg.lst ys) (fun y nw' => J (i + 1) (ys ++ [y]) nw')) E' { s₂ with heap := h, toks := tk })
    (hRR : ∀ h tk ys nw, Fr h₀ L h m → News h₀ L h ((D, LCg.lst ys) :: nw) → Off4 I C K D nw → h.get? C = some oC → J n ys nw → RR (.ok .next) { s₂ with heap := h, toks := tk }) :
    codeAny (model prog w) A (.compLoop (.ListComp elt [⟨.Name x px, iter, [], 0⟩] scope pos) 0 (.ref I) (.ref D) (compEnvC scope ((x, K) :: cl) C env)) RR { s₂ with heap := H3 } := by
  have W := LCg.range_walks (prog := prog) (w := w) (I := I) hh a n
  refine codeAny_compLoop_tests
    (BSt h₀ L m I C K D oC a n J s₂) ?_ (n + 1)
    ⟨H3, _, 0, [], cellObj, none, nw₀, rfl, Nat.zero_le _, rfl, rfl, st₃, F, rfl, N₃, off₀, hJ⟩
  rintro k s' ⟨h', tk, i, ys, oK, v, nw, rfl, hi, rfl, hyl, hst', F', hoK, N', off', hJ'⟩
  by_cases hlt : i < n
  · refine W.item i _ _ _ hlt hst' fun v₁ h₂ tk₂ hPv hst₂ hk₂ => ?_
    obtain ⟨t, rfl⟩ := hPv
    have hk₂' : ∀ b o, b ≠ I → h'.get? b = some o → h₂.get? b = some o := fun b o hb e => hk₂ b o (fun q => hb (List.mem_singleton.mp q)) e
    have F₂ : Fr h₀ L h₂ m := LCg.fr_but F' hk₂ ap.IL.symm ap.I0
    have N₂ := news_other N' hk₂' (all_cons ap.IC.symm (all_cons ap.IK.symm (all_cons ap.ID.symm fun p hp => (off' p hp).1)))
    have zK : h₂.get? K = some oK := (N₂ _ (.tail _ (.head _))).1
    refine wpAny_assign_Name (wpAny_storeName_cell (c := K) (by simp [compEnvC, relabel, hkind]) hx (by simp [compEnvC]) ⟨oK, zK, hoK⟩ fun h₃ hc₃ hs₃ => ?_)
    refine wpAny_tests_nil ?_
    simp only [if_true]
    obtain ⟨oK', heK, hoK'⟩ := hc₃
    obtain ⟨oI, heI⟩ : ∃ o, h₂.get? I = some o := ⟨_, hst₂⟩
    have N₃' : News h₀ L h₃ ((I, oI) :: (C, oC) :: (K, oK') :: (D, LCg.lst ys) :: nw) :=
      news_cons (hs₃.extBut _ _ ap.IK heI) ap.IL ap.I0 (news_cons (hs₃.extBut _ _ ap.CK (N₂ _ (.head _)).1) ap.CL ap.C0 (news_cons heK ap.KL ap.K0
        (news_other (news_tail (news_tail N₂)) (fun b o hb e => hs₃.extBut b o hb e) (all_cons ap.DK fun p hp => (off' p hp).2.2.1))))
    refine wpAny_mono (turn i ys nw hlt hJ' t I oI C oC K oK' D h₃ _ _ hoK' (F₂.change hs₃ ap.KL ap.K0) N₃' off') (fun y s₄ h₄ => ?_) fun _ _ e => e
    obtain ⟨h₄, tk₄, nw₄, rfl, F₄, N₄, off₄, hJ₄⟩ := h₄
    have zD : h₄.get? D = some (LCg.lst ys) := (N₄ _ (.tail _ (.tail _ (.tail _ (.head _))))).1
    refine append_at (hsz := by show ys.toArray.size ≤ sizeLine; rw [List.size_toArray, hyl]; exact Nat.le_trans hi hsz) zD fun h₅ hs₅ hD₅ => ?_
    refine ⟨n + 1 - (i + 1), Nat.sub_lt_sub_left (Nat.lt_succ_of_lt hlt) (Nat.lt_succ_self i), h₅, tk₄, i + 1, ys ++ [y], oK', _, nw₄, rfl, hlt, rfl, by rw [List.length_append, List.length_singleton, hyl], ?_, F₄.change hs₅ ap.DL ap.D0, hoK', ?_, off₄, hJ₄⟩
    · have e : h₂.get? I = some _ := hst₂
      rw [heI] at e
      show h₅.get? I = some _
      rw [hs₅.extBut _ _ ap.ID (N₄ _ (.head _)).1, e]
    · exact news_cons (hs₅.extBut _ _ ap.DC.symm (N₄ _ (.tail _ (.head _))).1) ap.CL ap.C0 (news_cons (hs₅.extBut _ _ ap.DK.symm (N₄ _ (.tail _ (.tail _ (.head _)))).1) ap.KL ap.K0
        (news_cons (hD₅.trans (congrArg some (LCg.lst_snoc ys y))) ap.DL ap.D0 (news_other (fun p hp => N₄ p (.tail _ (.tail _ (.tail _ (.tail _ hp))))) (fun b o hb e => hs₅.extBut b o hb e) fun p hp => (off₄ p hp).2.2.2)))
  · obtain rfl : i = n := Nat.le_antisymm hi (Nat.not_lt.mp hlt)
    refine W.done _ _ _ hst' fun h₂ tk₂ hk₂ => ?_
    have hk₂' : ∀ b o, b ≠ I → h'.get? b = some o → h₂.get? b = some o := fun b o hb e => hk₂ b o (fun q => hb (List.mem_singleton.mp q)) e
    exact hRR h₂ tk₂ ys nw (LCg.fr_but F' hk₂ ap.IL.symm ap.I0) (news_other (news_tail (news_tail N')) hk₂' (all_cons ap.ID.symm fun p hp => (off' p hp).1)) off' (hk₂' _ _ ap.IC.symm (N' _ (.head _)).1) hJ'
theorem block_cell {s₂ : Shared} {I : Addr} {a : Int} {nw₀ : Led} {RR : Value → Addr → Result → Shared → Prop} (J : Nat → List Value → Led → Prop)
    (hh : A.handled = none) (hsz : n ≤ sizeLine) (hcf : ∀ k acc, cellsFrom k scope.names acc = (x, k) :: acc) (hpc : ∀ h, pushCells h scope.names = h.push cellObj)
    (hkind : scope.kind = .function) (hx : (compEnvC scope cl 0 env).kindOf x = some .cell)
    (hst : IsRangeIter s₂.heap I (a + ((0 : Nat) : Int) * 1) ((n : Int) - ((0 : Nat) : Int)) 1) (F : Fr h₀ L s₂.heap m) (N : News h₀ L s₂.heap nw₀) (hIL : I ≠ L) (hI₀ : h₀.get? I = none) (off : ∀ p ∈ nw₀, p.1 ≠ I) (hJ : J 0 [] nw₀)
    (turn : ∀ i ys nw, i < n → J i ys nw → ∀ t I oI C oC K oK D h tk (E' : Value → Shared → Prop), oK.data = .cell (some (.int (a + (i : Int)) t)) → Fr h₀ L h m → News h₀ L h ((I, oI) :: (C, oC) :: (K, oK) :: (D, LCg.lst ys) :: nw) → Off4 I C K D nw →
      wpAny (model prog w) A (eval elt (compEnvC scope ((x, K) :: cl) C env)) (CellEnd h₀ L m { s₂ with heap := h, toks := tk } I oI C oC K oK D (LCg.lst ys) (fun y nw' => J (i + 1) (ys ++ [y]) nw')) E' { s₂ with heap := h, toks := tk })
    (hRR : ∀ D C h tk ys nw, Fr h₀ L h m → News h₀ L h ((D, LCg.lst ys) :: nw) → (∀ p ∈ nw, p.1 ≠ D) → h.Ns C (fun _ => none) → h₀.get? C = none → C ≠ L → D ≠ C → (∀ p ∈ nw, p.1 ≠ C) → J n ys nw → RR (.ref D) C (.ok .next) { s₂ with heap := h, toks := tk }) :
    wpAny (model prog w) A (newList []) (fun acc s₃ => wpAny (model prog w) A (newFunctionEnv scope env.globals cl [] env.qual none .none (some env)) (fun cenv s₄ =>
      codeAny (model prog w) A (.compStart (.ListComp elt [⟨.Name x px, iter, [], 0⟩] scope pos) 0 (.ref I) acc { cenv with scope := relabel scope env }) (RR acc cenv.locals) s₄) E s₃) E s₂ := by
  refine wpAny_newObj_type (newFunctionEnv_comp ?_)
  dsimp only
  rw [hcf, hpc]
  generalize hH1 : s₂.heap.push { cls := .type "list", dict := none, data := .seq ([] : List Value).toArray } = H1
  generalize hH2 : H1.push { cls := .type "dict", data := .dict #[] } = H2
  have sz1 : H1.objs.size = s₂.heap.objs.size + 1 := by rw [← hH1, Heap.size_push]
  have sz2 : H2.objs.size = H1.objs.size + 1 := by rw [← hH2, Heap.size_push]
  have k3 : ∀ b o, H2.get? b = some o → (H2.push cellObj).get? b = some o := fun b o e => Heap.get?_push_of_some _ e
  have k2 : ∀ b o, H1.get? b = some o → (H2.push cellObj).get? b = some o := fun b o e => k3 b o (hH2 ▸ Heap.get?_push_of_some _ e)
  have kk : ∀ b o, s₂.heap.get? b = some o → (H2.push cellObj).get? b = some o := fun b o e => k2 b o (hH1 ▸ Heap.get?_push_of_some _ e)
  have hC2 : H2.Ns H1.objs.size (fun _ => none) := hH2 ▸ Heap.Ns.new ..
  have hIlt : I < s₂.heap.objs.size := by
    have e : s₂.heap.get? I = some _ := hst
    exact Heap.lt_size e
  have hLlt : L < s₂.heap.objs.size := F.ns.lt
  have hnew : ∀ b, s₂.heap.objs.size ≤ b → h₀.get? b = none := fun b hb => Heap.get?_none_of_le (Nat.le_trans (Nat.le_of_lt (Nat.lt_of_le_of_lt F.above hLlt)) hb)
  have d1 : s₂.heap.objs.size < H1.objs.size := sz1 ▸ Nat.lt_succ_self _
  have d2 : H1.objs.size < H2.objs.size := sz2 ▸ Nat.lt_succ_self _
  have d3 := Nat.lt_trans d1 d2
  have ap : Ap4 h₀ L I H1.objs.size H2.objs.size s₂.heap.objs.size := ⟨hIL, Nat.ne_of_gt (Nat.lt_trans hLlt d1), Nat.ne_of_gt (Nat.lt_trans hLlt d3), Nat.ne_of_gt hLlt, Nat.ne_of_lt (Nat.lt_trans hIlt d1), Nat.ne_of_lt (Nat.lt_trans hIlt d3), Nat.ne_of_lt hIlt,
    Nat.ne_of_lt d2, Nat.ne_of_lt d1, Nat.ne_of_lt d3, hI₀, hnew _ (Nat.le_of_lt d1), hnew _ (Nat.le_of_lt d3), hnew _ (Nat.le_refl _)⟩
  obtain ⟨oC, heC, hoC⟩ := LCg.ns_obj (hC2.keeps k3)
  have off₀ : Off4 I H1.objs.size H2.objs.size s₂.heap.objs.size nw₀ := fun p hp =>
    have h1 := Heap.lt_size (N p hp).1
    ⟨off p hp, Nat.ne_of_lt (Nat.lt_trans h1 d1), Nat.ne_of_lt (Nat.lt_trans h1 d3), Nat.ne_of_lt h1⟩
  have N₃ : News h₀ L (H2.push cellObj) ((H1.objs.size, oC) :: (H2.objs.size, cellObj) :: (s₂.heap.objs.size, LCg.lst []) :: nw₀) :=
    news_cons heC ap.CL ap.C0 (news_cons (Heap.get?_push_size _ rfl) ap.KL ap.K0 (news_cons (k2 _ _ (hH1 ▸ Heap.get?_push_size _ rfl)) ap.DL ap.D0 fun p hp => ⟨kk _ _ (N p hp).1, (N p hp).2⟩))
  have loop := block_loop (H3 := H2.push cellObj) (RR := RR (.ref s₂.heap.objs.size) H1.objs.size) (iter := iter) (px := px) (pos := pos) J hh hsz hkind hx ap (kk _ _ hst) (F.keeps kk) N₃ off₀ hJ turn
    (fun h tk ys nw F' N' off' hC hJ' => hRR _ _ h tk ys nw F' N' (fun p hp => (off' p hp).2.2.2) (hoC.ns hC) ap.C0 ap.CL ap.DC (fun p hp => (off' p hp).2.1) hJ')
  rw [← sz2]
  exact codeAny_compStart_list loop ((LCg.range_walks (prog := prog) (w := w) (I := I) hh a n).self 0 _ _ _ (kk _ _ hst) loop)
inductive CellSrc (prog : Program) (w : World) (A : Around) (h₀ : Heap) (L : Addr) (m : Fm) (env : Env) (elt : Expr) (x : Str) (scope : Scope) (cl : List (Str × Addr)) (n : Nat) (J : Nat → List Value → Led → Prop) (Q : Value → Shared → Prop) (xv : Value) (s₁ : Shared) : Prop
  | mk (r : Addr) (a b : Int) (t u v : Tok) (nw₀ : Led) (e : xv = .ref r) (hh : A.handled = none) (F : Fr h₀ L s₁.heap m) (N : News h₀ L s₁.heap nw₀) (hr : IsRange s₁.heap r a b 1 t u v) (hsm : Builtin.Range.small a b 1 = true) (hn : Builtin.Range.rangeSize a b 1 = ((n : Nat) : Int)) (hJ : J 0 [] nw₀)
      (turn : ∀ i ys nw, i < n → J i ys nw → ∀ t I oI C oC K oK D h tk (E' : Value → Shared → Prop), oK.data = .cell (some (.int (a + (i : Int)) t)) → Fr h₀ L h m → News h₀ L h ((I, oI) :: (C, oC) :: (K, oK) :: (D, LCg.lst ys) :: nw) → Off4 I C K D nw →
        wpAny (model prog w) A (eval elt (compEnvC scope ((x, K) :: cl) C env)) (CellEnd h₀ L m { s₁ with heap := h, toks := tk } I oI C oC K oK D (LCg.lst ys) (fun y nw' => J (i + 1) (ys ++ [y]) nw')) E' { s₁ with heap := h, toks := tk })
      (done : ∀ D h tk ys nw, Fr h₀ L h m → News h₀ L h ((D, LCg.lst ys) :: nw) → (∀ p ∈ nw, p.1 ≠ D) → J n ys nw → Q (.ref D) { s₁ with heap := h, toks := tk }) : CellSrc prog w A h₀ L m env elt x scope cl n J Q xv s₁
/-- a comprehension over a range whose target is a cell -/
theorem ListComp_cell {Q : Value → Shared → Prop} (J : Nat → List Value → Led → Prop) (hsz : n ≤ sizeLine)
    (hclos : closureFor scope env = pure cl) (hcf : ∀ k acc, cellsFrom k scope.names acc = (x, k) :: acc) (hpc : ∀ h, pushCells h scope.names = h.push cellObj)
    (hkind : scope.kind = .function) (hx : (compEnvC scope cl 0 env).kindOf x = some .cell)
    (hnames : ∀ y ∈ scope.names, y.2 = .local → scope.names.lookup y.1 = some .local)
    (h : wpAny (model prog w) A (eval iter env) (CellSrc prog w A h₀ L m env elt x scope cl n J Q) E s)
    (hs : ∀ x, foldedSetIterable iter env x = pure x := by intro _; rfl) :
    wpAny (model prog w) A (eval (.ListComp elt [⟨.Name x px, iter, [], 0⟩] scope pos) env) Q E s := by
  rw [eval_ListComp]
  refine wpAny_comprehension_free (use := none) rfl hs hclos hkind hnames (wpAny_mono h (fun xv s₁ h₁ => ?_) fun _ _ e => e)
  obtain ⟨r, a, b, t, u, v, nw₀, rfl, hh, F, N, hr, hsm, hn, hJ, turn, done⟩ := h₁
  refine wpAny_pyIter_range hr hsm ?_
  refine block_cell (h₀ := h₀) (L := L) (m := m) (a := a) (n := n) J hh hsz hcf hpc hkind hx (by show IsRangeIter _ _ _ _ _; rw [hn]; simpa using Heap.get?_push_size _ rfl) (F.push _) (N.grown fun _ _ e => Heap.get?_push_of_some _ e)
    (Ne.symm (Nat.ne_of_lt F.ns.lt)) (next_is_new F) (fun p hp => Nat.ne_of_lt (Heap.lt_size (N p hp).1)) hJ
    (fun i ys nw hi hj t I oI C oC K oK D h tk E' hk F' N' O' => turn i ys nw hi hj t I oI C oC K oK D h tk E' hk F' N' O') ?_
  intro D C h tk ys nw F' N' oD hn' hC₀ hCL hDC oC' hJ'
  refine ⟨_, hn', fun h'' hs'' => done D h'' tk ys nw (F'.change hs'' hCL hC₀) (fun p hp => ?_) oD hJ'⟩
  refine ⟨hs''.extBut _ _ ?_ (N' p hp).1, (N' p hp).2⟩
  rcases List.mem_cons.mp hp with rfl | hp
  · exact hDC
  · exact oC' p hp
end
end Mine

set_option maxHeartbeats 2000000
namespace Mine
theorem fill18 : PySem.Challenge.rw_re0095_01 = PySem.Challenge.rw_re0095_01 ∧ hd.heap_39 = hd.heap_39 := by
  k_fill
  exact ⟨rfl, rfl⟩
local macro_rules | `(tactic| walk_at $s:str) => do if ["call builtin:list.append", "exec For Name Call cons nil", "call ref", "eval ListComp", "pyIter ref", "subscriptTail Name Name ref int", "subscriptTail Name Call ref int", "subscriptTail Subscript Call ref int", "call builtin:max", "call builtin:min", "CompSrc"].contains s.getString then `(tactic| refine Stop.mk ?_) else Lean.Macro.throwUnsupported
/-- the rows below the diagonal, the diagonal's nought at their end -/
noncomputable def lowRow (dst : Nat → Nat → Int) (i : Nat) : List Int := (List.range i).map (dst i) ++ [0]
noncomputable def lowN (dst : Nat → Nat → Int) (n : Nat) : List (List Int) := (List.range n).map (lowRow dst)
theorem lowN_succ (dst : Nat → Nat → Int) (n : Nat) : lowN dst (n + 1) = lowN dst n ++ [lowRow dst n] := by
  unfold lowN
  rw [List.range_succ, List.map_append]; rfl
noncomputable def lowAt (dst : Nat → Nat → Int) (a b : Nat) : Int := if b < a then dst a b else 0
noncomputable def sqRow (dst : Nat → Nat → Int) (n i : Nat) : List Int := (List.range n).map fun j => lowAt dst (max i j) (min i j)
noncomputable def sqM (dst : Nat → Nat → Int) (n : Nat) : List (List Int) := (List.range n).map (sqRow dst n)
theorem lowN_get {dst : Nat → Nat → Int} {n i : Nat} (h : i < n) : (lowN dst n)[i]? = some (lowRow dst i) := by
  simp [lowN, h]
theorem lowRow_get (dst : Nat → Nat → Int) {a b : Nat} (h : b ≤ a) : (lowRow dst a)[b]? = some (lowAt dst a b) := by
  unfold lowRow lowAt
  by_cases hb : b < a
  · rw [if_pos hb, List.getElem?_append_left (by simpa using hb)]
    simp [hb]
  · rw [if_neg hb, List.getElem?_append_right (by simp; omega)]
    have : b = a := by omega
    subst this
    simp
inductive SJ (dst : Nat → Nat → Int) (W0 L' wr : Addr) (oL o3 : Obj) (vs : List Value) (e : Nat) (news : Led) (i : Nat) (m' : Fm) (news' : Led) : Prop
  | mk (oi : Obj) (refs : List Value) (led : Led) (eL : Nat) (h0 : news' = (W0, listOf refs.toArray eL) :: (L' + 1 + 1 + 1, oi) :: (L' + 1 + 1, oL) :: (L' + 1, o3) :: (wr, listOf vs.toArray e) :: (led ++ news)) (h1 : (∃ v, oi.data = Data.cell v)) (h2 : Rws refs led (lowN dst i)) (h3 : (∀ p ∈ led, @LT.lt Nat _ W0 p.1)) : SJ dst W0 L' wr oL o3 vs e news i m' news'
section
variable {w : World} {p : Program} {loose : List Str} {mean : ExcName → Option Value} {mg mb : Fm} {dp un : Nat} {gd : Option (List Code)} {cn : Str} {cs : Scope} {a : Addr} {ccd : Value} {cl : List (Str × Addr)} {outer : List Env} {A₀ : Around} {base h₀ : Heap} {L : Addr} {m : Fm} {s : Shared} {Q E : Value → Shared → Prop} {news : Led}
theorem square_call {wr : Addr} {vs : List Value} {xs : List (List Nat)} {e : Nat} {dst : Nat → Nat → Int}
   (B : Below A₀ base outer h₀) (F : Fr h₀ L s.heap m) (X : (hd.heap_39 w.params).In h₀) (N : News h₀ L s.heap ((wr, listOf vs.toArray e) :: news)) (T : Top p loose mean mg mb h₀) (hk : cs.kind = .function)
   (hS : StrsAre vs (xs.map S)) (hl : xs.length ≤ 6) (hx40 : ∀ (i : Nat) (hi : i < xs.length), (S (xs[i]'hi)).length ≤ 40)
   (hD : ∀ (i j : Nat) (hi : i < xs.length) (hj : j < i), levP (xs[i]'hi) (xs[j]'(Nat.lt_trans hj hi)) 10 = some (dst i j)) (hdp : dp + 8 < recursionLimit) (hu : un + 60 < cLine)
   (hret : ∀ (D : Addr) (refs : List Value) (led : Led) (eD : Nat) (h' : Heap) (tk' : Nat), Rws refs led (sqM dst xs.length) → Fr h₀ L h' m → News h₀ L h' ((D, listOf refs.toArray eD) :: (led ++ ((wr, listOf vs.toArray e) :: news))) → Q (.ref D) { s with heap := h', toks := tk' }) :
   wpAny (model P0 w) (ktrTop dp un gd cn cs L a ccd cl outer) (call (.ref 110) [.ref wr]) Q E s := by
  refine wpAny_call ?_
  k_dflt (refine' code_defC ?k1 ?k2 ?k3 ?k4 ?k5 ?kA ?kF ?kK ?k6 ?k7 ?k8 ?k9 ?kB ?kD ?_ ?c2 ?c3 ?c4; (case kA => exact rfl); (case kF => exact rfl); (case kK => assumption); (case k1 => k_asm); (case k2 => k_asm); (case k3 => k_asm); (case k4 => k_asm); (case k5 => k_asm); (case k6 => k_is); (case k7 => k_is); (case k8 => ktr_room); (case k9 => exact BindsTo.of_eq rfl); (case kB => exact rfl); (case kD => decide +kernel); (case c2 => exact rfl); (case c3 => exact rfl); (case c4 => exact rfl); k_whole; intro g' L' _ _ _ FG F' N' Y' B' X' T' lL; (try k_lt lL); k_cells Y'; (try simp only [List.cons_append, List.nil_append] at N'); (try dsimp only); (try k_lift B'); (try k_fold))
  refine abs_all fun QF hQF => ?_
  (repeat' (first | (k_unfold; (try dsimp only)) | (walk1 <;> (try dsimp only)) | (dsimp only; walk1) | ((with_reducible rename Post _ _ => hP'); (with_reducible refine Post.of hP' ?_))))
  refine Stop.of ?_
  rename Fr _ _ _ _ => Fx
  rename News _ _ _ _ => Nx
  rename_i _ _ o1 o2 o3 d1 d2 d3 W0 _ lW _ oL dL
  have dI : o1.data = Data.cell none := d1
  have dW : o3.data = Data.cell (some (.ref wr)) := d3
  clear d1 d2 d3
  obtain ⟨lL1, lL2⟩ := lL
  obtain ⟨lW1, lW2, lW3, lW4, lW5⟩ := lW
  have hvl : vs.length = xs.length := by rw [hS.length, List.length_map]
  refine For_store (h₀ := g') ?_
  (repeat' (first | (k_unfold; (try dsimp only)) | (walk1 <;> (try dsimp only)) | (dsimp only; walk1) | ((with_reducible rename Post _ _ => hP'); (with_reducible refine Post.of hP' ?_))))
  refine kun_lenL (k := (xs.length : Int)) (News.isList Nx (.tail _ (.tail _ (.tail _ (.tail _ (.head _)))))) (by rw [List.size_toArray]; omega) (by omega) ?_
  (repeat' (first | (k_unfold; (try dsimp only)) | (walk1 <;> (try dsimp only)) | (dsimp only; walk1) | ((with_reducible rename Post _ _ => hP'); (with_reducible refine Post.of hP' ?_))))
  refine Stop.of ?_
  rename Fr _ _ _ _ => Fx
  rename News _ _ _ _ => Nx
  rename IsRange _ _ _ _ _ _ _ _ => rg
  refine loop_rangeS xs.length (SJ dst W0 L' wr oL o3 vs e news)
    rfl rg (small_one (by decide) (by decide) (by omega) (by omega)) (by rw [rangeSize_nat]; omega) Fx Nx ?_ ?_ ?_
  · exact ⟨o1, [], [], 0, rfl, ⟨_, dI⟩, .nil, fun _ h => nomatch h⟩
  · rintro i t₁ m₁ news₁ I oI h₁ tk₁ hi ⟨oi, refs, led, eL, rfl, ⟨vi, dI'⟩, hR, hled⟩ hnI hlt F₁ N₁
    clear Fx Nx rg
    rw [Int.zero_add]
    have F₂ : Fr g' L' h₁ m₁ := F₁
    have N₂ : News g' L' h₁ ((I, oI) :: (W0, listOf refs.toArray eL) :: (L' + 1 + 1 + 1, oi) :: (L' + 1 + 1, oL) :: (L' + 1, o3) :: (wr, listOf vs.toArray e) :: (led ++ news)) := N₁
    clear F₁ N₁
    have hnc : ∀ p ∈ led ++ news, p.1 ≠ L' + 1 + 1 + 1 := by
      intro p hp
      refine neN ?_
      rcases List.mem_append.mp hp with hp | hp
      · have := hled p hp
        omega
      · have := ktn_ltOf lL2 p hp
        show @Ne Nat p.1 (L' + 1 + 1 + 1)
        have : @LT.lt Nat _ p.1 L' := this
        omega
    have hIW : @LT.lt Nat _ W0 I := hlt _ (.head _)
    refine abs_store fun QT1 hQT1 => ?_
    (repeat' (first | (k_unfold; (try dsimp only)) | (walk1 <;> (try dsimp only)) | (dsimp only; walk1) | ((with_reducible rename Post _ _ => hP'); (with_reducible refine Post.of hP' ?_))))
    refine Stop.of ?_
    rename Fr _ _ _ _ => Fx
    rename News _ _ _ _ => Nx
    rename_i oi' dI₂
    k_dflt (refine LCg.ListComp_U (F₀ := Fx) (by with_unfolding_all rfl) (by decide) (by rfl) (by decide) (by rfl) ?_)
    (repeat' (first | (k_unfold; (try dsimp only)) | (walk1 <;> (try dsimp only)) | (dsimp only; walk1) | ((with_reducible rename Post _ _ => hP'); (with_reducible refine Post.of hP' ?_))))
    refine Stop.of ?_
    rename Fr _ _ _ _ => Fx
    rename News _ _ _ _ => Nx
    rename IsRange _ _ _ _ _ _ _ _ => rg
    refine LCg.CompSrc.range (n := i) rfl Fx Nx rg (small_one (by decide) (by decide) (by omega) (by omega)) (by rw [rangeSize_nat]; omega) (by rw [sizeLine_eq]; omega) fun g => ?_
    refine compRest_inv (n := i) (fun j ys nw => nw = (I, oI) :: (W0, listOf refs.toArray eL) :: (L' + 1 + 1 + 1, oi') :: (L' + 1 + 1, oL) :: (L' + 1, o3) :: (wr, listOf vs.toArray e) :: (led ++ news) ∧ IntsAre ys ((List.range j).map (dst i))) ?_ ?_ i 0 [] _ (by omega) ⟨rfl, .nil⟩
    · rintro j ys nw hj ⟨rfl, hys⟩ v I₂ oI₂ C₂ oC₂ D₂ m₂ h₂ tk₂ E₂ ⟨tj, rfl⟩ hN₂ hm₂ F₂ N₂ hO₂ hne₂
      clear Fx Nx rg
      rw [Int.zero_add] at hm₂
      refine abs_all fun QC1 hQC1 => ?_
      obtain ⟨ti, hti⟩ := hS.at (j := ((i : Nat) : Int).toNat) (y := S (xs[i]'hi)) (by rw [Int.toNat_natCast, List.getElem?_map, List.getElem?_eq_getElem hi]; rfl)
      obtain ⟨ts, htj⟩ := hS.at (j := ((j : Nat) : Int).toNat) (y := S (xs[j]'(Nat.lt_trans hj hi))) (by rw [Int.toNat_natCast, List.getElem?_map, List.getElem?_eq_getElem (Nat.lt_trans hj hi)]; rfl)
      (repeat' (first | (k_unfold; (try dsimp only)) | (walk1 <;> (try dsimp only)) | (dsimp only; walk1) | ((with_reducible rename Post _ _ => hP'); (with_reducible refine Post.of hP' ?_))))
      refine Stop.of ?_
      rename Fr _ _ _ _ => Fx
      rename News _ _ _ _ => Nx
      refine item_listL (News.isList Nx (.tail _ (.tail _ (.tail _ (.tail _ (.tail _ (.tail _ (.tail _ (.tail _ (.head _)))))))))) (by omega) (by omega) hti ?_
      (repeat' (first | (k_unfold; (try dsimp only)) | (walk1 <;> (try dsimp only)) | (dsimp only; walk1) | ((with_reducible rename Post _ _ => hP'); (with_reducible refine Post.of hP' ?_))))
      refine Stop.of ?_
      rename Fr _ _ _ _ => Fx
      rename News _ _ _ _ => Nx
      refine item_listL (News.isList Nx (.tail _ (.tail _ (.tail _ (.tail _ (.tail _ (.tail _ (.tail _ (.tail _ (.head _)))))))))) (by omega) (by omega) htj ?_
      (repeat' (first | (k_unfold; (try dsimp only)) | (walk1 <;> (try dsimp only)) | (dsimp only; walk1) | ((with_reducible rename Post _ _ => hP'); (with_reducible refine Post.of hP' ?_))))
      refine Stop.of ?_
      rename Fr _ _ _ _ => Fx
      rename News _ _ _ _ => Nx
      k_dflt (refine lev_call (by assumption) Fx (by assumption) Nx (by assumption) rfl (hx40 _ _) (hx40 _ _) (hD i j hi hj) (by show dp + 1 + 2 < recursionLimit; omega) (by show un + 3 + 16 < cLine; omega) ?_)
      intro t₃ h₃ tk₃ F₃ N₃
      refine Post.of hQC1 ?_
      refine LCg.CompEnd.intro F₃ N₃ _ (fun p hp => hp) hO₂ trivial ⟨rfl, ?_⟩
      rw [List.range_succ, List.map_append]
      exact hys.append (.cons _ _ .nil)
    · rintro ys nw ⟨rfl, hys⟩ D₂ h₂ tk₂ F₂ N₂ hO₂
      clear Fx Nx rg
      have hyl : ys.length = i := by rw [hys.length, List.length_map, List.length_range]
      (repeat' (first | (k_unfold; (try dsimp only)) | (walk1 <;> (try dsimp only)) | (dsimp only; walk1) | ((with_reducible rename Post _ _ => hP'); (with_reducible refine Post.of hP' ?_))))
      refine Stop.of ?_
      rename Fr _ _ _ _ => Fx
      rename News _ _ _ _ => Nx
      rename_i Z h₅ F₅ N₅ l₅ h₆
      have hW9 : @LT.lt Nat _ W0 h₅.objs.size := Heap.lt_size (N₅ _ (.tail _ (.tail _ (.tail _ (.head _))))).1
      have hI9 : @LT.lt Nat _ I h₅.objs.size := Heap.lt_size (N₅ _ (.tail _ (.tail _ (.head _)))).1
      obtain ⟨_, _, l₅, _⟩ := l₅
      have hWn : ∀ p ∈ (L' + 1 + 1 + 1, oi') :: (L' + 1 + 1, oL) :: (L' + 1, o3) :: (wr, listOf vs.toArray e) :: (led ++ news), p.1 ≠ W0 := by
        intro p hp
        refine neN ?_
        simp only [List.mem_cons, List.mem_append] at hp
        rcases hp with rfl | rfl | rfl | rfl | hp | hp
        · show @Ne Nat (L' + 1 + 1 + 1) W0; omega
        · show @Ne Nat (L' + 1 + 1) W0; omega
        · show @Ne Nat (L' + 1) W0; omega
        · show @Ne Nat wr W0; omega
        · have : @LT.lt Nat _ W0 p.1 := hled p hp
          omega
        · exact allNe_of lW5 (Nat.le_refl _) p hp
      refine append_K Fx Nx (Upd.tail (show @Ne Nat h₅.objs.size W0 by omega) (Upd.tail (show @Ne Nat Z W0 by omega) (Upd.tail (show @Ne Nat D₂ W0 from Ne.symm hO₂.2.1) (Upd.tail (show @Ne Nat I W0 by omega) (Upd.head hWn))))) ?_ (by rw [List.size_toArray, sizeLine_eq, hR.len]; simp [lowN]; omega)
      intro h₇ F₇ N₇
      rw [List.push_toArray] at N₇
      clear Fx Nx
      (repeat' (first | (k_unfold; (try dsimp only)) | (walk1 <;> (try dsimp only)) | (dsimp only; walk1) | ((with_reducible rename Post _ _ => hP'); (with_reducible refine Post.of hP' ?_))))
      refine TurnEnd.next ((W0, listOf (List.toArray (refs ++ [Value.ref h₅.objs.size])) (eL + 1)) :: (L' + 1 + 1 + 1, oi') :: (L' + 1 + 1, oL) :: (L' + 1, o3) :: (wr, listOf vs.toArray e) :: ((led ++ [(h₅.objs.size, listOf (List.toArray (ys ++ [Value.int 0 tk₂])) 0)]) ++ news)) (by assumption) (news_sub (by assumption) ?_) ?_ (fun _ h => nomatch h) ?_
      · intro p hp
        simp only [List.mem_cons, List.mem_append, List.not_mem_nil, or_false] at hp ⊢
        rcases hp with h | h | h | h | h | h | (h | h) | h <;> simp [h]
      · intro p hp
        simp only [List.mem_cons, List.mem_append, List.not_mem_nil, or_false] at hp
        have hI' : ∀ q, q ∈ (L' + 1 + 1, oL) :: (L' + 1, o3) :: (wr, listOf vs.toArray e) :: (led ++ news) → q.1 ≠ I := fun q hq => hnI q (.tail _ (.tail _ hq))
        rcases hp with rfl | rfl | rfl | rfl | rfl | (hp | rfl) | hp
        · refine neN ?_; show @Ne Nat W0 I; omega
        · exact hnI (L' + 1 + 1 + 1, oi) (.tail _ (.head _))
        · exact hI' _ (.head _)
        · exact hI' _ (.tail _ (.head _))
        · exact hI' _ (.tail _ (.tail _ (.head _)))
        · exact hI' _ (.tail _ (.tail _ (.tail _ (List.mem_append_left _ hp))))
        · refine neN ?_; show @Ne Nat h₅.objs.size I; omega
        · exact hI' _ (.tail _ (.tail _ (.tail _ (List.mem_append_right _ hp))))
      · refine ⟨oi', _, _, _, rfl, ⟨_, dI₂⟩, ?_, ?_⟩
        · rw [lowN_succ]
          exact hR.app (.one (hys.append (.cons _ _ .nil)))
        · intro p hp
          simp only [List.mem_append, List.mem_singleton] at hp
          rcases hp with hp | rfl
          · exact hled p hp
          · exact hW9
  · rintro m₁ news₁ h₁ tk₁ ⟨oi, refs, led, eL, rfl, ⟨vi, dI'⟩, hR, hled⟩ F₁ N₁
    clear Fx Nx rg
    have F₂ : Fr g' L' h₁ m₁ := F₁
    have N₂ : News g' L' h₁ ((W0, listOf refs.toArray eL) :: (L' + 1 + 1 + 1, oi) :: (L' + 1 + 1, oL) :: (L' + 1, o3) :: (wr, listOf vs.toArray e) :: (led ++ news)) := N₁
    clear F₁ N₁
    (repeat' (first | (k_unfold; (try dsimp only)) | (walk1 <;> (try dsimp only)) | (dsimp only; walk1) | ((with_reducible rename Post _ _ => hP'); (with_reducible refine Post.of hP' ?_))))
    refine Stop.of ?_
    rename Fr _ _ _ _ => Fx
    rename News _ _ _ _ => Nx
    k_dflt (refine ListComp_cell (h₀ := g') (L := L') (m := m₁) (n := xs.length) (fun i ys nw => ∃ led₂, nw = (W0, listOf refs.toArray eL) :: (L' + 1 + 1 + 1, oi) :: (L' + 1 + 1, oL) :: (L' + 1, o3) :: (wr, listOf vs.toArray e) :: (led₂ ++ (led ++ news)) ∧
      Rws ys led₂ ((List.range i).map (sqRow dst xs.length))) (by rw [sizeLine_eq]; omega) (by with_unfolding_all rfl) (fun _ _ => by rfl) (fun _ => by rfl) (by rfl) (by rfl) (by decide) ?_)
    (repeat' (first | (k_unfold; (try dsimp only)) | (walk1 <;> (try dsimp only)) | (dsimp only; walk1) | ((with_reducible rename Post _ _ => hP'); (with_reducible refine Post.of hP' ?_))))
    refine kun_lenL (k := (xs.length : Int)) (News.isList Nx (.tail _ (.tail _ (.tail _ (.tail _ (.head _)))))) (by rw [List.size_toArray]; omega) (by omega) ?_
    (repeat' (first | (k_unfold; (try dsimp only)) | (walk1 <;> (try dsimp only)) | (dsimp only; walk1) | ((with_reducible rename Post _ _ => hP'); (with_reducible refine Post.of hP' ?_))))
    rename Fr _ _ _ _ => Fx
    rename News _ _ _ _ => Nx
    rename IsRange _ _ _ _ _ _ _ _ => rg
    refine ⟨_, _, _, _, _, _, _, rfl, rfl, Fx, Nx, rg, small_one (by decide) (by decide) (by omega) (by omega), by rw [rangeSize_nat]; omega, ⟨[], rfl, .nil⟩, ?_, ?_⟩
    · rintro i ys nw hi ⟨led₂, rfl, hR₂⟩ t I oI C oC K oK D h₂ tk₂ E₂ dK F₂ N₂ O₂
      rw [Int.zero_add] at dK
      clear Fx Nx rg
      refine abs_all fun QC2 hQC2 => ?_
      (repeat' (first | (k_unfold; (try dsimp only)) | (walk1 <;> (try dsimp only)) | (dsimp only; walk1) | ((with_reducible rename Post _ _ => hP'); (with_reducible refine Post.of hP' ?_))))
      refine Stop.of ?_
      rename Fr _ _ _ _ => Fx
      rename News _ _ _ _ => Nx
      k_dflt (refine LCg.ListComp_U (F₀ := Fx) (by with_unfolding_all rfl) (by decide) (by rfl) (by decide) (by rfl) ?_)
      (repeat' (first | (k_unfold; (try dsimp only)) | (walk1 <;> (try dsimp only)) | (dsimp only; walk1) | ((with_reducible rename Post _ _ => hP'); (with_reducible refine Post.of hP' ?_))))
      rename Fr _ _ _ _ => Fx
      rename News _ _ _ _ => Nx
      refine kun_lenL (k := (xs.length : Int)) (News.isList Nx (.tail _ (.tail _ (.tail _ (.tail _ (.tail _ (.tail _ (.tail _ (.tail _ (.head _)))))))))) (by rw [List.size_toArray]; omega) (by omega) ?_
      (repeat' (first | (k_unfold; (try dsimp only)) | (walk1 <;> (try dsimp only)) | (dsimp only; walk1) | ((with_reducible rename Post _ _ => hP'); (with_reducible refine Post.of hP' ?_))))
      refine Stop.of ?_
      rename Fr _ _ _ _ => Fx
      rename News _ _ _ _ => Nx
      rename IsRange _ _ _ _ _ _ _ _ => rg
      refine LCg.CompSrc.range (n := xs.length) rfl Fx Nx rg (small_one (by decide) (by decide) (by omega) (by omega)) (by rw [rangeSize_nat]; omega) (by rw [sizeLine_eq]; omega) fun g => ?_
      refine compRest_inv (n := xs.length) (fun j ys₂ nw => nw = (I, oI) :: (C, oC) :: (K, oK) :: (D, LCg.lst ys) :: (W0, listOf refs.toArray eL) :: (L' + 1 + 1 + 1, oi) :: (L' + 1 + 1, oL) :: (L' + 1, o3) :: (wr, listOf vs.toArray e) :: (led₂ ++ (led ++ news)) ∧ IntsAre ys₂ ((List.range j).map fun j => lowAt dst (max i j) (min i j))) ?_ ?_ xs.length 0 [] _ (by omega) ⟨rfl, .nil⟩
      · rintro j ys₂ nw hj ⟨rfl, hys⟩ v I₂ oI₂ C₂ oC₂ D₂ m₂ h₂ tk₂ E₂ ⟨tj, rfl⟩ hN₂ hm₂ F₂ N₂ hO₂ hne₂
        clear Fx Nx rg
        rw [Int.zero_add] at hm₂
        refine abs_all fun QC3 hQC3 => ?_
        (repeat' (first | (k_unfold; (try dsimp only)) | (walk1 <;> (try dsimp only)) | (dsimp only; walk1) | ((with_reducible rename Post _ _ => hP'); (with_reducible refine Post.of hP' ?_))))
        refine Stop.of ?_
        rename Fr _ _ _ _ => Fx
        rename News _ _ _ _ => Nx
        have emax : (if (j : Int) > (i : Int) then (j : Int) else (i : Int)) = ((max i j : Nat) : Int) := by split <;> omega
        have emin : (if (j : Int) < (i : Int) then (j : Int) else (i : Int)) = ((min i j : Nat) : Int) := by split <;> omega
        have hmx : max i j < xs.length := by omega
        have hmn : min i j ≤ max i j := by omega
        obtain ⟨r₁, e₁, vs₁, g1, g2, g3⟩ := hR.get (i := max i j) (lowN_get hmx)
        obtain ⟨t₁, g4⟩ := g3.get _ _ (lowRow_get dst hmn)
        have hmx' : @LE.le Nat _ (max i j) 6 := by omega
        have hmn' : @LE.le Nat _ (min i j) 6 := by omega
        refine max_two_N rfl Fx Nx ?_
        intro h₃ tk₃ F₃ N₃
        rw [emax]
        clear Fx Nx emax
        generalize hmxe : max i j = mx at *
        generalize hmne : min i j = mn at *
        (repeat' (first | (k_unfold; (try dsimp only)) | (walk1 <;> (try dsimp only)) | (dsimp only; walk1) | ((with_reducible rename Post _ _ => hP'); (with_reducible refine Post.of hP' ?_))))
        refine Stop.of ?_
        rename Fr _ _ _ _ => Fx
        rename News _ _ _ _ => Nx
        refine item_listL (News.isList Nx (.tail _ (.tail _ (.tail _ (.tail _ (.tail _ (.tail _ (.tail _ (.head _))))))))) (by omega) (by omega) (by rw [Int.toNat_natCast]; exact g1) ?_
        (repeat' (first | (k_unfold; (try dsimp only)) | (walk1 <;> (try dsimp only)) | (dsimp only; walk1) | ((with_reducible rename Post _ _ => hP'); (with_reducible refine Post.of hP' ?_))))
        refine Stop.of ?_
        rename Fr _ _ _ _ => Fx
        rename News _ _ _ _ => Nx
        refine min_two_N rfl Fx Nx ?_
        intro h₄ tk₄ F₄ N₄
        rw [emin]
        clear Fx Nx emin
        (repeat' (first | (k_unfold; (try dsimp only)) | (walk1 <;> (try dsimp only)) | (dsimp only; walk1) | ((with_reducible rename Post _ _ => hP'); (with_reducible refine Post.of hP' ?_))))
        refine Stop.of ?_
        rename Fr _ _ _ _ => Fx
        rename News _ _ _ _ => Nx
        refine item_listL (News.isList Nx (List.mem_append_right [_, _, _, _, _, _, _, _, _, _, _, _] (List.mem_append_right _ (List.mem_append_left _ g2)))) (by omega) (by omega) (by rw [Int.toNat_natCast]; exact g4) ?_
        (repeat' (first | (k_unfold; (try dsimp only)) | (walk1 <;> (try dsimp only)) | (dsimp only; walk1) | ((with_reducible rename Post _ _ => hP'); (with_reducible refine Post.of hP' ?_))))
        refine LCg.CompEnd.intro (by assumption) (by assumption) _ (fun p hp => hp) hO₂ trivial ⟨rfl, ?_⟩
        rw [List.range_succ, List.map_append]
        refine hys.append ?_
        rw [List.map_cons, List.map_nil, hmxe, hmne]
        exact .cons _ _ .nil
      · rintro ys₂ nw ⟨rfl, hys⟩ D₂ h₃ tk₃ F₃ N₃ hO₃
        clear Fx Nx rg
        (repeat' (first | (k_unfold; (try dsimp only)) | (walk1 <;> (try dsimp only)) | (dsimp only; walk1) | ((with_reducible rename Post _ _ => hP'); (with_reducible refine Post.of hP' ?_))))
        refine ⟨h₃, tk₃, (W0, listOf refs.toArray eL) :: (L' + 1 + 1 + 1, oi) :: (L' + 1 + 1, oL) :: (L' + 1, o3) :: (wr, listOf vs.toArray e) :: ((led₂ ++ [(D₂, LCg.lst ys₂)]) ++ (led ++ news)), rfl, F₃, news_sub N₃ ?_, ?_, led₂ ++ [(D₂, LCg.lst ys₂)], rfl, ?_⟩
        · intro p hp
          simp only [List.mem_cons, List.mem_append, List.not_mem_nil, or_false] at hp ⊢
          rcases hp with h | h | h | h | h | h | h | h | h | (h | h) | h <;> simp [h]
        · intro p hp
          obtain ⟨z1, z2, z3, z4, _⟩ := hO₃
          simp only [List.mem_cons, List.mem_append, List.not_mem_nil, or_false] at hp
          rcases hp with h | h | h | h | h | (h | h) | h
          · exact O₂ p (by simp [h])
          · exact O₂ p (by simp [h])
          · exact O₂ p (by simp [h])
          · exact O₂ p (by simp [h])
          · exact O₂ p (by simp [h])
          · exact O₂ p (by simp [h])
          · rw [h]; exact ⟨Ne.symm z1, Ne.symm z2, Ne.symm z3, Ne.symm z4⟩
          · exact O₂ p (by simp only [List.mem_cons, List.mem_append]; simp only [h, or_true])
        · rw [List.range_succ, List.map_append]
          exact hR₂.app (.one hys)
    · rintro D h₂ tk₂ ys nw F₂ N₂ hnD ⟨led₂, rfl, hR₂⟩
      clear Fx Nx rg
      (repeat' (first | (k_unfold; (try dsimp only)) | (walk1 <;> (try dsimp only)) | (dsimp only; walk1) | ((with_reducible rename Post _ _ => hP'); (with_reducible refine Post.of hP' ?_))))
      refine hret D ys led₂ ys.length _ _ hR₂ (by assumption) (news_sub (by assumption) ?_)
      intro p hp
      simp only [List.mem_cons, List.mem_append] at hp ⊢
      rcases hp with h | h | h | h <;> simp [h]
end
end Mine

set_option maxHeartbeats 1000000
namespace Mine
noncomputable def iterO {α : Type} (f : Nat → α → Option α) (a : α) : Nat → Option α
  | 0 => some a
  | c + 1 => (iterO f a c).bind (f c)
theorem iterO_mono {α : Type} {f : Nat → α → Option α} {a : α} {n : Nat} : ∀ {r : α}, iterO f a n = some r → ∀ j, j ≤ n → ∃ r', iterO f a j = some r' := by
  induction n with
  | zero => exact fun {r} h j hj => ⟨r, Nat.le_zero.mp hj ▸ h⟩
  | succ n ih =>
    intro r h j hj
    rcases Nat.lt_or_eq_of_le hj with hj | rfl
    · rw [iterO] at h
      cases hq : iterO f a n with
      | none => rw [hq] at h; exact absurd h.symm (Option.some_ne_none _)
      | some r' => exact ih hq j (Nat.le_of_lt_succ hj)
    · exact ⟨r, h⟩
theorem iterO_step {α : Type} {f : Nat → α → Option α} {a b : α} {n j : Nat} {r : α} (h : iterO f a n = some r) (hj : j < n) (hb : iterO f a j = some b) : ∃ c, f j b = some c ∧ iterO f a (j + 1) = some c := by
  obtain ⟨c, hc⟩ := iterO_mono h (j + 1) hj
  refine ⟨c, ?_, hc⟩
  unfold iterO at hc
  rw [hb] at hc
  exact hc
theorem iterO_inv {α : Type} {f : Nat → α → Option α} {a : α} {P : α → Prop} (h0 : P a) (hs : ∀ c x y, P x → f c x = some y → P y) {n : Nat} : ∀ {r : α}, iterO f a n = some r → P r := by
  induction n with
  | zero => exact fun {r} h => Option.some.inj h ▸ h0
  | succ n ih =>
    intro r h
    rw [iterO] at h
    cases hq : iterO f a n with
    | none => rw [hq] at h; exact absurd h.symm (Option.some_ne_none _)
    | some x => rw [hq] at h; exact hs n x r (ih hq) h
noncomputable def ent (T : List (List Int)) (i j : Nat) : Int := (T.getD i []).getD j 0
noncomputable def setE (T : List (List Int)) (i j : Nat) (x : Int) : List (List Int) := T.set i ((T.getD i []).set j x)
noncomputable def small8 (x : Int) : Bool := decide (x.natAbs ≤ 100000000)
/-- one entry of the elimination; none outside its bounds and where a remainder is left -/
noncomputable def pivStep (k i j : Nat) (T : List (List Int)) : Option (List (List Int)) :=
  if small8 (ent T i j) && small8 (ent T k k) && small8 (ent T i k) && small8 (ent T k j) then
    let cross := ent T i j * ent T k k - ent T i k * ent T k j
    if k = 0 then some (setE T i j cross)
    else if small8 (ent T (k - 1) (k - 1)) && !(ent T (k - 1) (k - 1) == 0) && (cross.fmod (ent T (k - 1) (k - 1)) == 0) then some (setE T i j (cross.fdiv (ent T (k - 1) (k - 1))))
    else none
  else none
noncomputable def pivJ (n k i : Nat) (T : List (List Int)) : Option (List (List Int)) := iterO (fun c => pivStep k i (k + 1 + c)) T (n - (k + 1))
noncomputable def pivI (n k : Nat) (T : List (List Int)) : Option (List (List Int)) := iterO (fun c => pivJ n k (k + 1 + c)) T (n - (k + 1))
noncomputable def pivK (n : Nat) (T : List (List Int)) : Option (List (List Int)) := iterO (fun c => pivI n c) T (n - 1)
noncomputable def swap2 (sq : List (List Int)) : List (List Int) := [sq.getD 1 [], sq.getD 0 []] ++ sq.drop 2
noncomputable def diagP (n : Nat) (T : List (List Int)) : List Int := (List.range n).map fun k => ent T k k
noncomputable def pivP (sq : List (List Int)) : Option (List Int) := (pivK sq.length (swap2 sq)).map (diagP sq.length)
structure Rect (n : Nat) (T : List (List Int)) : Prop where
  len : T.length = n
  row : ∀ r ∈ T, r.length = n
theorem Rect.get {n : Nat} {T : List (List Int)} (h : Rect n T) {i : Nat} (hi : i < n) : T[i]? = some (T.getD i []) ∧ (T.getD i []).length = n := by
  have hl := h.len
  have e : T[i]? = some (T[i]'(by omega)) := List.getElem?_eq_getElem _
  have e2 : T.getD i [] = T[i]'(by omega) := by rw [List.getD_eq_getElem?_getD, e]; rfl
  rw [e2]
  exact ⟨e, h.row _ (List.getElem_mem _)⟩
theorem Rect.ent {n : Nat} {T : List (List Int)} (h : Rect n T) {i j : Nat} (hi : i < n) (hj : j < n) : (T.getD i [])[j]? = some (Mine.ent T i j) := by
  have hl := (h.get hi).2
  unfold Mine.ent
  rw [List.getD_eq_getElem?_getD (l := T.getD i []), List.getElem?_eq_getElem (by omega)]
  rfl
theorem Rect.set {n : Nat} {T : List (List Int)} (h : Rect n T) {i j : Nat} {x : Int} (hi : i < n) : Rect n (setE T i j x) := by
  have hl := h.len
  unfold setE
  refine ⟨by rw [List.length_set, hl], fun r hr => ?_⟩
  rcases List.mem_or_eq_of_mem_set hr with hr | rfl
  · exact h.row r hr
  · rw [List.length_set]; exact (h.get hi).2
theorem swap2_rect {n : Nat} {M : List (List Int)} (h : Rect n M) (hn : 2 ≤ n) : Rect n (swap2 M) := by
  have hl := h.len
  refine ⟨by simp [swap2]; omega, fun r hr => ?_⟩
  unfold swap2 at hr
  simp only [List.cons_append, List.nil_append, List.mem_cons] at hr
  rcases hr with rfl | rfl | hr
  · exact (h.get (by omega)).2
  · exact (h.get (by omega)).2
  · exact h.row _ (List.mem_of_mem_drop hr)
theorem pivStep_rect {n k i j : Nat} {T T' : List (List Int)} (h : Rect n T) (hi : i < n) (hs : pivStep k i j T = some T') : Rect n T' := by
  unfold pivStep at hs
  split at hs
  · dsimp only at hs
    split at hs
    · cases hs; exact h.set hi
    · split at hs
      · cases hs; exact h.set hi
      · cases hs
  · cases hs
theorem small8_iff {x : Int} (h : small8 x = true) : x.natAbs ≤ 100000000 := of_decide_eq_true h
/-- what a step's guard says -/
structure StepOk (k i j : Nat) (T : List (List Int)) : Prop where
  a : (ent T i j).natAbs ≤ 100000000
  b : (ent T k k).natAbs ≤ 100000000
  c : (ent T i k).natAbs ≤ 100000000
  d : (ent T k j).natAbs ≤ 100000000
noncomputable abbrev crossP (k i j : Nat) (T : List (List Int)) : Int := ent T i j * ent T k k - ent T i k * ent T k j
theorem pivStep_ok {k i j : Nat} {T T' : List (List Int)} (hs : pivStep k i j T = some T') : StepOk k i j T ∧
    ((k = 0 ∧ T' = setE T i j (crossP k i j T)) ∨ (k ≠ 0 ∧ (ent T (k - 1) (k - 1)).natAbs ≤ 100000000 ∧ ent T (k - 1) (k - 1) ≠ 0 ∧ (crossP k i j T).fmod (ent T (k - 1) (k - 1)) = 0 ∧ T' = setE T i j ((crossP k i j T).fdiv (ent T (k - 1) (k - 1))))) := by
  unfold pivStep at hs
  split at hs
  · rename_i hg
    simp only [Bool.and_eq_true] at hg
    obtain ⟨⟨⟨g1, g2⟩, g3⟩, g4⟩ := hg
    refine ⟨⟨small8_iff g1, small8_iff g2, small8_iff g3, small8_iff g4⟩, ?_⟩
    dsimp only at hs
    split at hs
    · rename_i hk
      cases hs
      exact .inl ⟨hk, rfl⟩
    · rename_i hk
      split at hs
      · rename_i hg
        simp only [Bool.and_eq_true, Bool.not_eq_true', beq_eq_false_iff_ne, beq_iff_eq] at hg
        obtain ⟨⟨q1, q2⟩, q3⟩ := hg
        cases hs
        exact .inr ⟨hk, small8_iff q1, q2, q3, rfl⟩
      · cases hs
  · cases hs
theorem StepOk.cross {k i j : Nat} {T : List (List Int)} (h : StepOk k i j T) : -(2 ^ 60) < crossP k i j T ∧ crossP k i j T < 2 ^ 60 := by
  have h1 : (ent T i j * ent T k k).natAbs ≤ 100000000 * 100000000 := by rw [Int.natAbs_mul]; exact Nat.mul_le_mul h.a h.b
  have h2 : (ent T i k * ent T k j).natAbs ≤ 100000000 * 100000000 := by rw [Int.natAbs_mul]; exact Nat.mul_le_mul h.c h.d
  show -(2 ^ 60) < ent T i j * ent T k k - ent T i k * ent T k j ∧ ent T i j * ent T k k - ent T i k * ent T k j < 2 ^ 60
  generalize ent T i j * ent T k k = u at *
  generalize ent T i k * ent T k j = v at *
  omega
end Mine

set_option maxHeartbeats 1000000
namespace Mine
theorem NotStr1.list {its : Array Value} {e : Nat} : NotStr1 (listOf its e) := fun _ _ _ h => nomatch h
theorem NotStr1.cell {o : Obj} {v : Option Value} (h : o.data = .cell v) : NotStr1 o := fun _ _ _ h' => by rw [h] at h'; cases h'
theorem t30_ne {h₀ h : Heap} {L a : Addr} {o : Obj} {t all : Led} (hT : T30 t) (N : News h₀ L h all) (hs : ∀ p ∈ t, p ∈ all) (ho : h.get? a = some o) (hn : NotStr1 o) (ha : @Ne Nat a 30) : ∀ p ∈ t, @Ne Nat p.1 a := by
  intro p hp q
  have hq : p.1 = a := q
  have g := (N p (hs p hp)).1
  rw [hq, ho] at g
  cases hT with
  | empty => rw [List.mem_singleton.mp hp] at hq; exact ha hq.symm
  | full hd hv hc =>
    simp only [List.mem_cons, List.not_mem_nil, or_false] at hp
    rcases hp with rfl | rfl
    · exact ha hq.symm
    · cases g
      exact hn _ _ _ hd hv
theorem t37_ne {h₀ h : Heap} {L a : Addr} {o : Obj} {t all : Led} (hT : T37 t) (N : News h₀ L h all) (hs : ∀ p ∈ t, p ∈ all) (ho : h.get? a = some o) (hn : NotStr1 o) (ha : @Ne Nat a 37) : ∀ p ∈ t, @Ne Nat p.1 a := by
  intro p hp q
  have hq : p.1 = a := q
  have g := (N p (hs p hp)).1
  rw [hq, ho] at g
  cases hT with
  | empty => rw [List.mem_singleton.mp hp] at hq; exact ha hq.symm
  | full hd hv hc =>
    simp only [List.mem_cons, List.not_mem_nil, or_false] at hp
    rcases hp with rfl | rfl
    · exact ha hq.symm
    · cases g
      exact hn _ _ _ hd hv
theorem t30_mem {t : Led} (hT : T30 t) : ∃ o, ((30 : Addr), o) ∈ t := by
  cases hT with
  | empty => exact ⟨_, .head _⟩
  | full hd hv hc => exact ⟨_, .head _⟩
theorem t37_mem {t : Led} (hT : T37 t) : ∃ o, ((37 : Addr), o) ∈ t := by
  cases hT with
  | empty => exact ⟨_, .head _⟩
  | full hd hv hc => exact ⟨_, .head _⟩
end Mine

set_option maxHeartbeats 1000000
namespace Mine
theorem rangeSize_from {k n : Nat} : Builtin.Range.rangeSize ((k : Int) + 1) (n : Int) 1 = ((n - (k + 1) : Nat) : Int) := by
  unfold Builtin.Range.rangeSize
  simp only [show (1 : Int) > 0 by decide, if_true]
  split <;> omega
/-- the turning part of the ledger: the rows of the table, the two tables of codes, the caller's objects -/
noncomputable def PT (news : Led) (ys : List Value) (as : List Addr) (n : Nat) (T : List (List Int)) (tl : Led) : Prop :=
  ∃ led t30 t37, tl = led ++ (t30 ++ (t37 ++ news)) ∧ Rws ys led T ∧ led.map (·.1) = as ∧ Rect n T ∧ T30 t30 ∧ T37 t37
/-- what stands beside it -/
noncomputable def Off (base tl : Led) : Prop := ∀ q ∈ base, NotStr1 q.2 ∧ ∀ p ∈ tl, @Ne Nat p.1 q.1
structure Bd (news : Led) (as : List Addr) (l : Nat) : Prop where
  nd : as.Nodup
  hi : ∀ a ∈ as, @LT.lt Nat _ (l + 1) a
  lo : ∀ p ∈ news, @LT.lt Nat _ p.1 l
  l37 : 37 < l
  n30 : ∀ p ∈ news, @Ne Nat p.1 30 ∧ @Ne Nat p.1 37
theorem PT.m30 {news : Led} {ys : List Value} {as : List Addr} {n : Nat} {T : List (List Int)} {tl : Led} (h : PT news ys as n T tl) : (∃ o, ((30 : Addr), o) ∈ tl) ∧ ∃ o, ((37 : Addr), o) ∈ tl := by
  obtain ⟨led, t30, t37, rfl, _, _, _, h30, h37⟩ := h
  obtain ⟨o, ho⟩ := t30_mem h30
  obtain ⟨o', ho'⟩ := t37_mem h37
  exact ⟨⟨o, List.mem_append_right _ (List.mem_append_left _ ho)⟩, o', List.mem_append_right _ (List.mem_append_right _ (List.mem_append_left _ ho'))⟩
theorem Off.n30 {news : Led} {ys : List Value} {as : List Addr} {n : Nat} {T : List (List Int)} {base tl : Led} (h : Off base tl) (hp : PT news ys as n T tl) : ∀ q ∈ base, @Ne Nat q.1 30 ∧ @Ne Nat q.1 37 := by
  intro q hq
  obtain ⟨⟨o, ho⟩, o', ho'⟩ := hp.m30
  exact ⟨Ne.symm ((h q hq).2 _ ho), Ne.symm ((h q hq).2 _ ho')⟩
theorem Off.cons {base tl : Led} {I : Addr} {o : Obj} (h : Off base tl) (hn : NotStr1 o) (hI : ∀ p ∈ base ++ tl, p.1 ≠ I) : Off ((I, o) :: base) tl := by
  intro q hq
  rcases List.mem_cons.mp hq with rfl | hq
  · exact ⟨hn, fun p hp => hI p (List.mem_append_right _ hp)⟩
  · exact h q hq
theorem Off.tail {base tl : Led} {x : Addr × Obj} (h : Off (x :: base) tl) : Off base tl := fun q hq => h q (.tail _ hq)
theorem off_addr {tl tl' : Led} (h : tl'.map (·.1) = tl.map (·.1)) {x : Addr} (hx : ∀ p ∈ tl, @Ne Nat p.1 x) : ∀ p ∈ tl', @Ne Nat p.1 x := by
  intro p hp
  have : p.1 ∈ tl.map (·.1) := h ▸ List.mem_map_of_mem hp
  obtain ⟨q, hq, e⟩ := List.mem_map.mp this
  rw [← e]
  exact hx q hq
theorem Off.upd {base tl tl' : Led} (h : Off base tl) (e : tl'.map (·.1) = tl.map (·.1)) : Off base tl' := fun q hq => ⟨(h q hq).1, off_addr e (h q hq).2⟩
theorem turn_off {base tl tl' : Led} {I : Addr} {o : Obj} (h : Off ((I, o) :: base) tl') (hnI : ∀ p ∈ base ++ tl, p.1 ≠ I) : ∀ p ∈ base ++ tl', p.1 ≠ I := fun p hp =>
  (List.mem_append.mp hp).elim (fun q => hnI p (List.mem_append_left _ q)) (fun q => (h _ (.head _)).2 p q)
theorem Off.ne {base tl : Led} (h : Off base tl) {x : Addr × Obj} (hx : x ∈ tl) : ∀ p ∈ base, p.1 ≠ x.1 := fun p hp => Ne.symm ((h p hp).2 x hx)
/-- the rows' place in the ledger -/
theorem PT.row {news : Led} {ys : List Value} {as : List Addr} {n : Nat} {T : List (List Int)} {tl : Led} (h : PT news ys as n T tl) {i : Nat} (hi : i < n) :
    ∃ r e vs, ys[i]? = some (.ref r) ∧ (r, listOf (List.toArray vs) e) ∈ tl ∧ IntsAre vs (T.getD i []) := by
  obtain ⟨led, t30, t37, rfl, hR, _, hM, _, _⟩ := h
  obtain ⟨r, e, vs, h1, h2, h3⟩ := hR.get (hM.get hi).1
  exact ⟨r, e, vs, h1, List.mem_append_left _ h2, h3⟩
theorem PT.rect {news : Led} {ys : List Value} {as : List Addr} {n : Nat} {T : List (List Int)} {tl : Led} (h : PT news ys as n T tl) : Rect n T := by
  obtain ⟨led, t30, t37, rfl, hR, _, hM, _, _⟩ := h
  exact hM
theorem PT.len {news : Led} {ys : List Value} {as : List Addr} {n : Nat} {T : List (List Int)} {tl : Led} (h : PT news ys as n T tl) : ys.length = n := by
  obtain ⟨led, t30, t37, rfl, hR, _, hM, _, _⟩ := h
  rw [hR.len, hM.len]
/-- an item at a place -/
theorem PT.item {news : Led} {ys : List Value} {as : List Addr} {n : Nat} {T : List (List Int)} {tl : Led} (h : PT news ys as n T tl) {i : Nat} (hi : i < n) :
    ∃ r e vs, ys[((i : Nat) : Int).toNat]? = some (.ref r) ∧ (r, listOf (List.toArray vs) e) ∈ tl ∧ ∀ j, j < n → ∃ t, vs[((j : Nat) : Int).toNat]? = some (.int (ent T i j) t) := by
  obtain ⟨r, e, vs, h1, h2, h3⟩ := h.row hi
  refine ⟨r, e, vs, by rw [Int.toNat_natCast]; exact h1, h2, fun j hj => ?_⟩
  rw [Int.toNat_natCast]
  exact h3.get _ _ (h.rect.ent hi hj)
/-- one entry is stored -/
theorem PT.set {news : Led} {ys : List Value} {as : List Addr} {n l : Nat} {T : List (List Int)} {tl all : Led} {h₀ hp : Heap} {L : Addr} (h : PT news ys as n T tl) (hb : Bd news as l) (N : News h₀ L hp all) (hs : ∀ p ∈ tl, p ∈ all) {i j : Nat} (hi : i < n) :
    ∃ r e vs, ys[((i : Nat) : Int).toNat]? = some (.ref r) ∧ (r, listOf (List.toArray vs) e) ∈ tl ∧ IntsAre vs (T.getD i []) ∧ ∀ (x : Int) (u : Tok), ∃ tl', Upd r (listOf vs.toArray e) (listOf (List.toArray (vs.set ((j : Nat) : Int).toNat (.int x u))) e) tl tl' ∧
      PT news ys as n (setE T i j x) tl' ∧ tl'.map (·.1) = tl.map (·.1) := by
  obtain ⟨led, t30, t37, rfl, hR, ha, hM, h30, h37⟩ := h
  obtain ⟨r, e, vs, h1, h2, h3, h4⟩ := hR.upd (ha ▸ hb.nd) (hM.get hi).1
  refine ⟨r, e, vs, by rw [Int.toNat_natCast]; exact h1, List.mem_append_left _ h2, h3, fun x u => ?_⟩
  obtain ⟨led', hU, hR', hm⟩ := h4 (vs.set j (.int x u)) ((T.getD i []).set j x) e (ints_set h3 _)
  have hra : @LT.lt Nat _ (l + 1) r := hb.hi r (ha ▸ List.mem_map_of_mem (f := (·.1)) h2)
  have hl := hb.l37
  have ho := (N _ (hs _ (List.mem_append_left _ h2))).1
  have hne : ∀ p ∈ t30 ++ (t37 ++ news), p.1 ≠ r := by
    intro p hp'
    rcases List.mem_append.mp hp' with hp' | hp'
    · exact t30_ne h30 N (fun p hp => hs p (List.mem_append_right _ (List.mem_append_left _ hp))) ho .list (by omega) p hp'
    · rcases List.mem_append.mp hp' with hp' | hp'
      · exact t37_ne h37 N (fun p hp => hs p (List.mem_append_right _ (List.mem_append_right _ (List.mem_append_left _ hp)))) ho .list (by omega) p hp'
      · refine neN ?_
        have := hb.lo p hp'
        omega
  rw [Int.toNat_natCast]
  refine ⟨led' ++ (t30 ++ (t37 ++ news)), upd_front hU hne, ⟨led', t30, t37, rfl, hR', by rw [hm, ha], hM.set hi, h30, h37⟩, by simp only [List.map_append, hm]⟩
/-- the ledger as int_divmod wants it, and back -/
theorem PT.div {news : Led} {ys : List Value} {as : List Addr} {n l : Nat} {T : List (List Int)} {base tl : Led} {h₀ hp : Heap} {L : Addr} (h : PT news ys as n T tl) (hb : Bd news as l) (hO : Off base tl) (N : News h₀ L hp (base ++ tl)) :
    ∃ t30 t37 rest, T30 t30 ∧ T37 t37 ∧ News h₀ L hp (t30 ++ (t37 ++ rest)) ∧ (∀ p ∈ rest, @Ne Nat p.1 30 ∧ @Ne Nat p.1 37) ∧
      ∀ (t30' t37' : Led) (h' : Heap) (all : Led), T30 t30' → T37 t37' → News h₀ L h' all → (∀ p ∈ t30' ++ (t37' ++ rest), p ∈ all) → ∃ tl', PT news ys as n T tl' ∧ Off base tl' ∧ (∀ p ∈ base ++ tl', p ∈ t30' ++ (t37' ++ rest)) := by
  have hn := hO.n30 h
  obtain ⟨led, t30, t37, rfl, hR, ha, hM, h30, h37⟩ := h
  refine ⟨t30, t37, base ++ (led ++ news), h30, h37, news_sub N ?_, ?_, ?_⟩
  · intro p hp
    simp only [List.mem_append] at hp ⊢
    rcases hp with h | h | h | h | h <;> simp [h]
  · intro p hp
    rcases List.mem_append.mp hp with hp | hp
    · exact hn p hp
    · rcases List.mem_append.mp hp with hp | hp
      · have := hb.hi p.1 (ha ▸ List.mem_map_of_mem hp)
        have := hb.l37
        exact ⟨by omega, by omega⟩
      · exact hb.n30 p hp
  · intro t30' t37' h' all k30 k37 N' hs
    refine ⟨led ++ (t30' ++ (t37' ++ news)), ⟨led, t30', t37', rfl, hR, ha, hM, k30, k37⟩, ?_, ?_⟩
    · intro q hq
      refine ⟨(hO q hq).1, fun p hp => ?_⟩
      have hq' := (N' q (hs q (List.mem_append_right _ (List.mem_append_right _ (List.mem_append_left _ hq))))).1
      rcases List.mem_append.mp hp with hp | hp
      · exact (hO q hq).2 p (List.mem_append_left _ hp)
      · rcases List.mem_append.mp hp with hp | hp
        · exact t30_ne k30 N' (fun p hp => hs p (List.mem_append_left _ hp)) hq' (hO q hq).1 (hn q hq).1 p hp
        · rcases List.mem_append.mp hp with hp | hp
          · exact t37_ne k37 N' (fun p hp => hs p (List.mem_append_right _ (List.mem_append_left _ hp))) hq' (hO q hq).1 (hn q hq).2 p hp
          · exact (hO q hq).2 p (List.mem_append_right _ (List.mem_append_right _ (List.mem_append_right _ hp)))
    · intro p hp
      simp only [List.mem_append] at hp ⊢
      rcases hp with h | h | h | h | h <;> simp [h]
end Mine

set_option maxHeartbeats 4000000
namespace Mine
theorem fill19 : PySem.Challenge.rw_re0095_01 = PySem.Challenge.rw_re0095_01 ∧ hd.heap_39 = hd.heap_39 := by
  k_fill
  exact ⟨rfl, rfl⟩
local macro_rules | `(tactic| walk_at $s:str) => do if ["call builtin:list.append", "exec For Name Call cons nil", "call ref", "call type:list", "eval ListComp", "pyIter ref", "setItem ref int", "binaryOp Mult int int", "binaryOp Add ref ref", "subscriptTail Name Slice ref ref", "subscriptTail Name Name ref int", "subscriptTail Name BinOp ref int", "subscriptTail Subscript Name ref int", "subscriptTail Subscript BinOp ref int", "CompSrc"].contains s.getString then `(tactic| refine Stop.mk ?_) else Lean.Macro.throwUnsupported
local macro_rules | `(tactic| walk_at "subscriptTail Name Constant ref int") => `(tactic| ((with_reducible rename On 5 => nt'); refine Stop.mk ?_))
inductive PK (M : List (List Int)) (OV D₂ L' : Addr) (oT2 : Obj) (ys : List Value) (news : Led) (as : List Addr) (n : Nat) (k : Nat) (m' : Fm) (news' : Led) : Prop
  | mk (T : List (List Int)) (tl' : Led) (tsz : Tok) (h0 : news' = (OV, listOf #[] 0) :: (D₂, listOf ys.toArray ys.length) :: (L' + 1, oT2) :: tl') (h1 : iterO (fun c => pivI n c) (swap2 M) k = some T) (h2 : PT news ys as n T tl') (h3 : Off [(OV, listOf #[] 0), (D₂, listOf ys.toArray ys.length), (L' + 1, oT2)] tl') (h4 : m' "size" = some (.int (n : Int) tsz)) (h5 : m' "over" = some (.ref OV)) : PK M OV D₂ L' oT2 ys news as n k m' news'
inductive PI (T : List (List Int)) (I₁ : Addr) (oI₁ : Obj) (k : Nat) (OV D₂ L' : Addr) (oT2 : Obj) (ys : List Value) (news : Led) (as : List Addr) (n : Nat) (c : Nat) (m' : Fm) (news' : Led) : Prop
  | mk (T₁ : List (List Int)) (tl' : Led) (tk1 tsz : Tok) (h0 : news' = (I₁, oI₁) :: (OV, listOf #[] 0) :: (D₂, listOf ys.toArray ys.length) :: (L' + 1, oT2) :: tl') (h1 : iterO (fun c => pivJ n k (k + 1 + c)) T c = some T₁) (h2 : PT news ys as n T₁ tl') (h3 : Off [(I₁, oI₁), (OV, listOf #[] 0), (D₂, listOf ys.toArray ys.length), (L' + 1, oT2)] tl') (h4 : m' "k" = some (.int (k : Int) tk1)) (h5 : m' "size" = some (.int (n : Int) tsz)) (h6 : m' "over" = some (.ref OV)) : PI T I₁ oI₁ k OV D₂ L' oT2 ys news as n c m' news'
inductive PJ (T₁ : List (List Int)) (I₂ : Addr) (oI₂ : Obj) (I₁ : Addr) (oI₁ : Obj) (k i : Nat) (OV D₂ L' : Addr) (oT2 : Obj) (ys : List Value) (news : Led) (as : List Addr) (n : Nat) (c : Nat) (m' : Fm) (news' : Led) : Prop
  | mk (T₃ : List (List Int)) (tl' : Led) (ti tk1 tsz : Tok) (h0 : news' = (I₂, oI₂) :: (I₁, oI₁) :: (OV, listOf #[] 0) :: (D₂, listOf ys.toArray ys.length) :: (L' + 1, oT2) :: tl') (h1 : iterO (fun c => pivStep k i (k + 1 + c)) T₁ c = some T₃) (h2 : PT news ys as n T₃ tl') (h3 : Off [(I₂, oI₂), (I₁, oI₁), (OV, listOf #[] 0), (D₂, listOf ys.toArray ys.length), (L' + 1, oT2)] tl') (h4 : m' "i" = some (.int (i : Int) ti)) (h5 : m' "k" = some (.int (k : Int) tk1)) (h6 : m' "size" = some (.int (n : Int) tsz)) (h7 : m' "over" = some (.ref OV)) : PJ T₁ I₂ oI₂ I₁ oI₁ k i OV D₂ L' oT2 ys news as n c m' news'
section
variable {w : World} {p : Program} {loose : List Str} {mean : ExcName → Option Value} {mg mb : Fm} {dp un : Nat} {gd : Option (List Code)} {cn : Str} {cs : Scope} {a : Addr} {ccd : Value} {cl : List (Str × Addr)} {outer : List Env} {A₀ : Around} {base h₀ : Heap} {L : Addr} {m : Fm} {s : Shared} {Q E : Value → Shared → Prop} {news : Led}
theorem t30_tab {t : Led} (hT : T30 t) : ∃ ps, ((30 : Addr), tabObj ps) ∈ t := by
  cases hT with
  | empty => exact ⟨_, .head _⟩
  | full hd hv hc => exact ⟨_, .head _⟩
theorem t37_tab {t : Led} (hT : T37 t) : ∃ ps, ((37 : Addr), tabObj ps) ∈ t := by
  cases hT with
  | empty => exact ⟨_, .head _⟩
  | full hd hv hc => exact ⟨_, .head _⟩
theorem pivots_call {sq : Addr} {refs : List Value} {led : Led} {M : List (List Int)} {eS n : Nat} {t30 t37 : Led} {ps : List Int}
   (B : Below A₀ base outer h₀) (F : Fr h₀ L s.heap m) (X : (hd.heap_39 w.params).In h₀) (hT30 : T30 t30) (hT37 : T37 t37) (N : News h₀ L s.heap ((sq, listOf refs.toArray eS) :: (led ++ (t30 ++ (t37 ++ news))))) (T : Top p loose mean mg mb h₀) (hk : cs.kind = .function)
   (C30 : CodeHd base 34 30) (C37 : CodeHd base 41 37) (hi : ∀ p ∈ news, @Ne Nat p.1 30 ∧ @Ne Nat p.1 37) (hR : Rws refs led M) (hM : Rect n M) (hn2 : 2 ≤ n) (hn6 : n ≤ 6) (hP : pivP M = some ps)
   (hdp : dp + 150 < recursionLimit) (hu : un + 1000 < cLine)
   (hret : ∀ (r D O : Addr) (pvs : List Value) (eD eO : Nat) (p30 p37 : Array Value) (h' : Heap) (tk' : Nat), IntsAre pvs ps → Fr h₀ L h' m → News h₀ L h' ((r, pairOf (.ref D) (.ref O)) :: (D, listOf pvs.toArray eD) :: (O, listOf #[] eO) :: (37, tabObj p37) :: (30, tabObj p30) :: news) → Q (.ref r) { s with heap := h', toks := tk' }) :
   wpAny (model P0 w) (ktrTop dp un gd cn cs L a ccd cl outer) (call (.ref 115) [.ref sq]) Q E s := by
  have hrl : refs.length = n := by rw [hR.len, hM.len]
  obtain ⟨r1, e1, vs1, g1, m1, i1⟩ := hR.get (i := 1) (hM.get (by omega)).1
  obtain ⟨r0, e0, vs0, g0, m0, i0⟩ := hR.get (i := 0) (hM.get (by omega)).1
  obtain ⟨Tf, hKf, hps⟩ : ∃ Tf, pivK n (swap2 M) = some Tf ∧ diagP n Tf = ps := by
    unfold pivP at hP
    rw [hM.len] at hP
    cases hq : pivK n (swap2 M) with
    | none => rw [hq] at hP; cases hP
    | some Tf => rw [hq] at hP; cases hP; exact ⟨Tf, rfl, rfl⟩
  have nt5 := on 5
  refine wpAny_call ?_
  k_dflt (refine' code_defC ?k1 ?k2 ?k3 ?k4 ?k5 ?kA ?kF ?kK ?k6 ?k7 ?k8 ?k9 ?kB ?kD ?_ ?c2 ?c3 ?c4; (case kA => exact rfl); (case kF => exact rfl); (case kK => assumption); (case k1 => k_asm); (case k2 => k_asm); (case k3 => k_asm); (case k4 => k_asm); (case k5 => k_asm); (case k6 => k_is); (case k7 => k_is); (case k8 => ktr_room); (case k9 => exact BindsTo.of_eq rfl); (case kB => exact rfl); (case kD => decide +kernel); (case c2 => exact rfl); (case c3 => exact rfl); (case c4 => exact rfl); k_whole; intro g' L' _ _ _ FG F' N' Y' B' X' T' lL; (try k_lt lL); k_cells Y'; (try simp only [List.cons_append, List.nil_append] at N'); (try dsimp only); (try k_lift B'); (try k_fold))
  refine abs_all fun QF hQF => ?_
  (repeat' (first | (k_unfold; (try dsimp only)) | (walk1 <;> (try dsimp only)) | (dsimp only; walk1) | ((with_reducible rename Post _ _ => hP'); (with_reducible refine Post.of hP' ?_))))
  refine Stop.of ?_
  rename Fr _ _ _ _ => Fx
  rename News _ _ _ _ => Nx
  rename_i _ _ oT dT
  have dT' : oT.data = Data.cell none := dT
  clear dT
  obtain ⟨lL1, lL2⟩ := lL
  obtain ⟨u0, Fy⟩ := fr_kstO [("square", .ref sq)] Fx ⟨rfl, trivial⟩
  clear Fx
  dsimp only [kstB] at Fy
  have hS2 : Rws ([.ref r1, .ref r0] ++ refs.drop 2) ([(r1, listOf vs1.toArray e1), (r0, listOf vs0.toArray e0)] ++ led.drop 2) (swap2 M) := (Rws.cons i1 (.cons i0 .nil)).app (hR.drop 2)
  k_dflt (refine LCg.ListComp_U (F₀ := Fy) (by with_unfolding_all rfl) (by decide) (by rfl) (by decide) (by rfl) ?_)
  (repeat' (first | (k_unfold; (try dsimp only)) | (walk1 <;> (try dsimp only)) | (dsimp only; walk1) | ((with_reducible rename Post _ _ => hP'); (with_reducible refine Post.of hP' ?_))))
  refine Stop.of ?_
  rename Fr _ _ _ _ => Fx
  rename News _ _ _ _ => Nx
  refine item_listL (News.isList Nx (.tail _ (.head _))) (by decide) (by decide) g1 ?_
  (repeat' (first | (k_unfold; (try dsimp only)) | (walk1 <;> (try dsimp only)) | (dsimp only; walk1) | ((with_reducible rename Post _ _ => hP'); (with_reducible refine Post.of hP' ?_))))
  refine Stop.of ?_
  rename Fr _ _ _ _ => Fx
  rename News _ _ _ _ => Nx
  refine item_listL (News.isList Nx (.tail _ (.head _))) (by decide) (by decide) g0 ?_
  (repeat' (first | (k_unfold; (try dsimp only)) | (walk1 <;> (try dsimp only)) | (dsimp only; walk1) | ((with_reducible rename Post _ _ => hP'); (with_reducible refine Post.of hP' ?_))))
  refine Stop.of ?_
  rename Fr _ _ _ _ => Fx
  rename News _ _ _ _ => Nx
  refine slice_list (hsz := by rw [List.size_toArray, sizeLine_eq]; omega) (s := ⟨_, _, _, _, _⟩) Fx Nx (News.isList Nx (.tail _ (.tail _ (.head _)))) (.int _ _) .none ?_
  intro h₂ F₂ N₂
  clear Fx Nx
  (repeat' (first | (k_unfold; (try dsimp only)) | (walk1 <;> (try dsimp only)) | (dsimp only; walk1) | ((with_reducible rename Post _ _ => hP'); (with_reducible refine Post.of hP' ?_))))
  refine Stop.of ?_
  rename Fr _ _ _ _ => Fx
  rename News _ _ _ _ => Nx
  have eq2 : slicePick refs.toArray (some 2) none none = (refs.drop 2).toArray := slicePick_from refs.toArray 2 (by rw [List.size_toArray]; omega)
  rw [eq2] at Nx
  refine add_arrays (its := #[.ref r1, .ref r0]) (its2 := (refs.drop 2).toArray) Fx Nx (News.isList Nx (.tail _ (.head _))) (News.isList Nx (.head _)) ?_ (by rw [List.size_toArray, sizeLine_eq]; simp; omega)
  intro h₃ F₃ N₃
  obtain ⟨SL, hSL⟩ : ∃ x, x = h₂.objs.size := ⟨_, rfl⟩
  have N₄ := news_sub (b := (L' + 1, oT) :: (SL, listOf (List.toArray ([Value.ref r1, Value.ref r0] ++ refs.drop 2)) 0) :: ([] ++ (led ++ (t30 ++ (t37 ++ news))))) N₃ (by
    intro p hp
    rw [hSL] at hp
    simp only [List.mem_cons, List.nil_append] at hp ⊢
    rcases hp with h | h | h
    · exact .inr (.inr (.inr (.inl h)))
    · exact .inl h
    · exact .inr (.inr (.inr (.inr (.inr h)))))
  clear Fx Nx N₃ eq2
  subst hSL
  have hsl : ([Value.ref r1, Value.ref r0] ++ refs.drop 2).length = n := by simp; omega
  refine LCg.CompSrc.ledger (its := List.toArray ([Value.ref r1, Value.ref r0] ++ refs.drop 2)) (k := 0) rfl F₃ N₄ (.tail _ (.head _)) (by rw [List.size_toArray, sizeLine_eq]; omega) fun g => ?_
  refine compRest_inv (n := n) (fun i ys nw => ∃ led', nw = (L' + 1, oT) :: (h₂.objs.size, listOf (List.toArray ([Value.ref r1, Value.ref r0] ++ refs.drop 2)) 0) :: (led' ++ (led ++ (t30 ++ (t37 ++ news)))) ∧ Rws ys led' ((swap2 M).take i) ∧ (led'.map (·.1)).Nodup ∧ ∀ p ∈ led', @LT.lt Nat _ (L' + 1) p.1) ?_ ?_ _ 0 [] _ (by rw [List.size_toArray]; omega) ⟨[], rfl, by rw [List.take_zero]; exact .nil, by simp, fun _ h => nomatch h⟩
  · rintro i ys nw hi ⟨led', rfl, hR', hnd, hlt⟩ v I oI C oC D m₂ h₄ tk₄ E₄ hv hNC hm₂ F₅ N₅ hO hne
    rw [List.getElem?_toArray] at hv
    have hsM : (swap2 M).length = n := by rw [← hS2.len]; exact hsl
    obtain ⟨r, e, vs, q1, q2, q3⟩ := hS2.get (i := i) (List.getElem?_eq_getElem (by omega : i < (swap2 M).length))
    rw [q1] at hv
    cases hv
    have q2' : (r, listOf (List.toArray vs) e) ∈ led := by
      rcases List.mem_append.mp q2 with q | q
      · simp only [List.mem_cons, List.not_mem_nil, or_false] at q
        rcases q with q | q
        · rw [q]; exact m1
        · rw [q]; exact m0
      · exact List.mem_of_mem_drop q
    have hvl : vs.length = n := by
      rw [q3.length]
      exact (swap2_rect hM hn2).row _ (List.getElem_mem _)
    (repeat' (first | (k_unfold; (try dsimp only)) | (walk1 <;> (try dsimp only)) | (dsimp only; walk1) | ((with_reducible rename Post _ _ => hP'); (with_reducible refine Post.of hP' ?_))))
    refine Stop.of ?_
    rename Fr _ _ _ _ => Fx
    rename News _ _ _ _ => Nx
    refine list_copyK Fx Nx (News.isList Nx (List.mem_append_right [_, _, _, _, _] (List.mem_append_right _ (List.mem_append_left _ q2')))) ?_ (by rw [List.size_toArray, sizeLine_eq]; omega)
    intro D' c' h₅ F₆ N₆ hD'
    refine LCg.CompEnd.intro F₆ N₆ ((L' + 1, oT) :: (h₂.objs.size, listOf (List.toArray ([Value.ref r1, Value.ref r0] ++ refs.drop 2)) 0) :: ((led' ++ [(D', listOf vs.toArray c')]) ++ (led ++ (t30 ++ (t37 ++ news))))) ?_ ?_ (.inr ⟨_, .tail _ (.head _), rfl, _, rfl⟩) ⟨led' ++ [(D', listOf vs.toArray c')], rfl, ?_, ?_, ?_⟩
    · intro p hp
      simp only [List.mem_cons, List.mem_append, List.not_mem_nil, or_false] at hp ⊢
      rcases hp with h | h | h | h | h | (h | h) | h <;> simp [h]
    · refine LCg.Off3.of fun p hp => ?_
      have hO' := hO.mem
      simp only [List.mem_cons, List.mem_append, List.not_mem_nil, or_false] at hp hO'
      rcases hp with h | h | (h | h) | h
      · exact hO' p (by simp [h])
      · exact hO' p (by simp [h])
      · exact hO' p (by simp [h])
      · rw [h]
        exact ⟨Ne.symm (Nat.ne_of_lt (hD' _ (.head _))), Ne.symm (Nat.ne_of_lt (hD' _ (.tail _ (.head _)))), Ne.symm (Nat.ne_of_lt (hD' _ (.tail _ (.tail _ (.head _)))))⟩
      · exact hO' p (.inr (.inr (.inr h)))
    · rw [List.take_add_one, List.getElem?_eq_getElem (by omega : i < (swap2 M).length)]
      exact hR'.app (.one q3)
    · rw [List.map_append, List.nodup_append]
      refine ⟨hnd, by simp, ?_⟩
      intro x hx y hy
      obtain ⟨p, hp, rfl⟩ := List.mem_map.mp hx
      rw [List.map_cons, List.map_nil, List.mem_singleton] at hy
      subst hy
      exact Nat.ne_of_lt (hD' p (List.mem_append_right [_, _, _, _, _] (List.mem_append_left _ hp)))
    · intro p hp
      rcases List.mem_append.mp hp with hp | hp
      · exact hlt p hp
      · rw [List.mem_singleton.mp hp]
        exact hD' _ (.tail _ (.tail _ (.tail _ (.head _))))
  · rintro ys nw ⟨led', rfl, hR', hnd, hlt⟩ D₂ h₄ tk₄ F₄ N₅ hO
    rw [List.take_of_length_le (by rw [← hS2.len]; omega)] at hR'
    have N₆ := news_sub (b := (D₂, listOf ys.toArray ys.length) :: (L' + 1, oT) :: (led' ++ (t30 ++ (t37 ++ news)))) N₅ (by
      intro p hp
      simp only [List.mem_cons, List.mem_append] at hp ⊢
      rcases hp with h | h | h | h | h | h <;> simp [h])
    have hDn : ∀ p ∈ (L' + 1, oT) :: (led' ++ (t30 ++ (t37 ++ news))), @Ne Nat p.1 D₂ := by
      intro p hp
      refine off1_mem hO p ?_
      simp only [List.mem_cons, List.mem_append] at hp ⊢
      rcases hp with h | h | h | h | h <;> simp [h]
    clear N₅ hO F₃ N₄
    have hbel : ∀ p ∈ t30 ++ (t37 ++ news), @LT.lt Nat _ p.1 L' := fun p hp => ktn_ltOf lL2 p (List.mem_append_right _ hp)
    have hcell : ∀ p ∈ led' ++ (t30 ++ (t37 ++ news)), p.1 ≠ L' + 1 := by
      intro p hp
      refine neN ?_
      rcases List.mem_append.mp hp with hp | hp
      · have := hlt p hp; omega
      · have := hbel p hp; omega
    have hD1 : @Ne Nat (L' + 1) D₂ := hDn _ (.head _)
    (repeat' (first | (k_unfold; (try dsimp only)) | (walk1 <;> (try dsimp only)) | (dsimp only; walk1) | ((with_reducible rename Post _ _ => hP'); (with_reducible refine Post.of hP' ?_))))
    rename Fr _ _ _ _ => Fx
    rename News _ _ _ _ => Nx
    rename_i oT2 dT2
    have hP0 : PT news ys (led'.map (·.1)) n (swap2 M) (led' ++ (t30 ++ (t37 ++ news))) := ⟨led', t30, t37, rfl, hR', rfl, swap2_rect hM hn2, hT30, hT37⟩
    obtain ⟨o37, ho37⟩ := hP0.m30.2
    have hBd : Bd news (led'.map (·.1)) L' := by
      refine ⟨hnd, ?_, fun p hp => hbel p (List.mem_append_right _ (List.mem_append_right _ hp)), ?_, hi⟩
      · intro x hx
        obtain ⟨p, hp, rfl⟩ := List.mem_map.mp hx
        exact hlt p hp
      · obtain ⟨o, ho⟩ := t37_mem hT37
        exact hbel _ (List.mem_append_right _ (List.mem_append_left _ ho))
    have hys : ys.length = n := hP0.len
    generalize led'.map (·.1) = as at *
    generalize led' ++ (t30 ++ (t37 ++ news)) = tl at *
    clear hR' hnd hlt hbel
    refine kun_lenL (k := (n : Int)) (News.isList Nx (.head _)) (by rw [List.size_toArray]; omega) (by omega) ?_
    have hNB : Stop (2 ≤ n ∧ n ≤ 6) := ⟨hn2, hn6⟩
    clear hn2 hn6
    (repeat' (first | (k_unfold; (try dsimp only)) | (walk1 <;> (try dsimp only)) | (dsimp only; walk1) | ((with_reducible rename Post _ _ => hP'); (with_reducible refine Post.of hP' ?_))))
    refine Stop.of ?_
    rename Fr _ _ _ _ => Fx
    rename News _ _ _ _ => Nx
    refine For_invVF Fx rfl rfl ?_
    (repeat' (first | (k_unfold; (try dsimp only)) | (walk1 <;> (try dsimp only)) | (dsimp only; walk1) | ((with_reducible rename Post _ _ => hP'); (with_reducible refine Post.of hP' ?_))))
    refine Stop.of ?_
    rename Fr _ _ _ _ => Fx
    rename News _ _ _ _ => Nx
    rename IsRange _ _ _ _ _ _ _ _ => rg
    rename_i OV _ lO _ _ _ _ _ _ _ _ _
    rename On 5 => nt5
    clear nt5
    obtain ⟨lO1, lO2, lO3⟩ := lO
    have hOff0 : Off [(OV, listOf #[] 0), (D₂, listOf ys.toArray ys.length), (L' + 1, oT2)] tl := by
      intro q hq
      simp only [List.mem_cons, List.not_mem_nil, or_false] at hq
      rcases hq with rfl | rfl | rfl
      · exact ⟨.list, fun p hp => Nat.ne_of_lt (ktn_ltOf lO3 p hp)⟩
      · exact ⟨.list, fun p hp => hDn p (.tail _ hp)⟩
      · exact ⟨.cell dT2, fun p hp => hcell p hp⟩
    clear hDn hcell ho37
    refine loop_rangeI (n - 1) (PK M OV D₂ L' oT2 ys news as n)
      rfl rg (small_one (by decide) (by decide) (by have := hNB.1; omega) (by have := hNB.2; omega)) (by have := hNB.1; rw [show ((n : Int) - 1) = ((n - 1 : Nat) : Int) by omega, rangeSize_nat]; omega) Fx Nx ?_ ?_ ?_
    · exact ⟨swap2 M, tl, _, rfl, rfl, hP0, hOff0, rfl, rfl⟩
    · rintro k t₁ m₁ news₁ I₁ oI₁ h₅ tk₅ hk1 ⟨T, tl₁, tsz, rfl, hT, hPT, hOff, hsz, hov⟩ hnI F₁ N₁ hsI
      clear Fx Nx rg hP0 hOff0
      rw [Int.zero_add] at F₁
      obtain ⟨T', hT', hT''⟩ := iterO_step hKf hk1 hT
      obtain ⟨u2, F₂⟩ := fr_kstO [("k", .int (k : Int) t₁), ("size", .int (n : Int) tsz), ("over", .ref OV)] F₁ ⟨rfl, hsz, hov, trivial⟩
      have N₂ := N₁
      clear F₁ N₁ hsz hov
      dsimp only [kstB] at F₂
      have hOff1 := hOff.cons hsI hnI
      refine abs_all fun QT1 hQT1 => ?_
      (repeat' (first | (k_unfold; (try dsimp only)) | (walk1 <;> (try dsimp only)) | (dsimp only; walk1) | ((with_reducible rename Post _ _ => hP'); (with_reducible refine Post.of hP' ?_))))
      refine Stop.of ?_
      rename Fr _ _ _ _ => Fx
      rename News _ _ _ _ => Nx
      refine For_invVF Fx rfl rfl ?_
      (repeat' (first | (k_unfold; (try dsimp only)) | (walk1 <;> (try dsimp only)) | (dsimp only; walk1) | ((with_reducible rename Post _ _ => hP'); (with_reducible refine Post.of hP' ?_))))
      refine Stop.of ?_
      rename Fr _ _ _ _ => Fx
      rename News _ _ _ _ => Nx
      rename IsRange _ _ _ _ _ _ _ _ => rg
      refine loop_rangeI (n - (k + 1)) (PI T I₁ oI₁ k OV D₂ L' oT2 ys news as n)
        rfl rg (small_one (by omega) (by have := hNB.2; omega) (by have := hNB.1; omega) (by have := hNB.2; omega)) rangeSize_from Fx Nx ?_ ?_ ?_
      · exact ⟨T, tl₁, _, _, rfl, rfl, hPT, hOff1, rfl, rfl, rfl⟩
      · rintro c₁ t₂ m₂ news₂ I₂ oI₂ h₆ tk₆ hc1 ⟨T₁, tl₂, tk1, tsz, rfl, hT₁, hPT₁, hOff₁, hkk, hsz, hov⟩ hnI₂ F₁ N₁ hsI₂
        clear Fx Nx rg
        rw [show ((k : Int) + 1 + (c₁ : Int)) = ((k + 1 + c₁ : Nat) : Int) by omega] at F₁
        obtain ⟨T₂, hT₂, hT₂'⟩ := iterO_step hT' hc1 hT₁
        have hin : k + 1 + c₁ < n := by omega
        generalize k + 1 + c₁ = i at *
        obtain ⟨u3, F₂⟩ := fr_kstO [("i", .int (i : Int) t₂), ("k", .int (k : Int) tk1), ("size", .int (n : Int) tsz), ("over", .ref OV)] F₁ ⟨rfl, hkk, hsz, hov, trivial⟩
        have N₂ := N₁
        clear F₁ N₁ hkk hsz hov
        dsimp only [kstB] at F₂
        have hOff2 := hOff₁.cons hsI₂ hnI₂
        refine abs_all fun QT2 hQT2 => ?_
        (repeat' (first | (k_unfold; (try dsimp only)) | (walk1 <;> (try dsimp only)) | (dsimp only; walk1) | ((with_reducible rename Post _ _ => hP'); (with_reducible refine Post.of hP' ?_))))
        refine Stop.of ?_
        rename Fr _ _ _ _ => Fx
        rename News _ _ _ _ => Nx
        refine For_invVF Fx rfl rfl ?_
        (repeat' (first | (k_unfold; (try dsimp only)) | (walk1 <;> (try dsimp only)) | (dsimp only; walk1) | ((with_reducible rename Post _ _ => hP'); (with_reducible refine Post.of hP' ?_))))
        refine Stop.of ?_
        rename Fr _ _ _ _ => Fx
        rename News _ _ _ _ => Nx
        rename IsRange _ _ _ _ _ _ _ _ => rg
        refine loop_rangeI (n - (k + 1)) (PJ T₁ I₂ oI₂ I₁ oI₁ k i OV D₂ L' oT2 ys news as n)
          rfl rg (small_one (by omega) (by have := hNB.2; omega) (by have := hNB.1; omega) (by have := hNB.2; omega)) rangeSize_from Fx Nx ?_ ?_ ?_
        · exact ⟨T₁, tl₂, _, _, _, rfl, rfl, hPT₁, hOff2, rfl, rfl, rfl, rfl⟩
        · rintro c₂ t₃ m₃ news₃ I₃ oI₃ h₇ tk₇ hc2 ⟨T₃, tl₃, ti, tk1, tsz, rfl, hT₃, hPT₃, hOff₃, hii, hkk, hsz, hov⟩ hnI₃ F₁ N₁ hsI₃
          clear Fx Nx rg
          rw [show ((k : Int) + 1 + (c₂ : Int)) = ((k + 1 + c₂ : Nat) : Int) by omega] at F₁
          obtain ⟨T₄, hT₄, hT₄'⟩ := iterO_step hT₂ hc2 hT₃
          have hjn : k + 1 + c₂ < n := by omega
          generalize k + 1 + c₂ = j at *
          obtain ⟨u4, F₂⟩ := fr_kstO [("j", .int (j : Int) t₃), ("i", .int (i : Int) ti), ("k", .int (k : Int) tk1), ("size", .int (n : Int) tsz), ("over", .ref OV)] F₁ ⟨rfl, hii, hkk, hsz, hov, trivial⟩
          have N₂ := N₁
          clear F₁ N₁ hii hkk hsz hov
          dsimp only [kstB] at F₂
          have hOff3 := hOff₃.cons hsI₃ hnI₃
          have hkn : k < n := by omega
          obtain ⟨hOk, hcase⟩ := pivStep_ok hT₄
          obtain ⟨ri, ei, vi, gi1, gi2, gi3⟩ := hPT₃.item hin
          obtain ⟨rk, ek, vk, gk1, gk2, gk3⟩ := hPT₃.item hkn
          obtain ⟨tij, gij⟩ := gi3 j hjn
          obtain ⟨tik, gik⟩ := gi3 k hkn
          obtain ⟨tkk, gkk⟩ := gk3 k hkn
          obtain ⟨tkj, gkj⟩ := gk3 j hjn
          clear gi3 gk3
          refine abs_all fun QT3 hQT3 => ?_
          (repeat' (first | (k_unfold; (try dsimp only)) | (walk1 <;> (try dsimp only)) | (dsimp only; walk1) | ((with_reducible rename Post _ _ => hP'); (with_reducible refine Post.of hP' ?_))))
          refine Stop.of ?_
          rename Fr _ _ _ _ => Fx
          rename News _ _ _ _ => Nx
          refine item_listL (News.isList Nx (.tail _ (.tail _ (.tail _ (.tail _ (.head _)))))) (by omega) (by have := hNB.2; omega) gi1 ?_
          (repeat' (first | (k_unfold; (try dsimp only)) | (walk1 <;> (try dsimp only)) | (dsimp only; walk1) | ((with_reducible rename Post _ _ => hP'); (with_reducible refine Post.of hP' ?_))))
          refine Stop.of ?_
          rename Fr _ _ _ _ => Fx
          rename News _ _ _ _ => Nx
          refine item_listL (News.isList Nx (List.mem_append_right [_, _, _, _, _, _] gi2)) (by omega) (by have := hNB.2; omega) gij ?_
          (repeat' (first | (k_unfold; (try dsimp only)) | (walk1 <;> (try dsimp only)) | (dsimp only; walk1) | ((with_reducible rename Post _ _ => hP'); (with_reducible refine Post.of hP' ?_))))
          refine Stop.of ?_
          rename Fr _ _ _ _ => Fx
          rename News _ _ _ _ => Nx
          refine item_listL (News.isList Nx (.tail _ (.tail _ (.tail _ (.tail _ (.head _)))))) (by omega) (by have := hNB.2; omega) gk1 ?_
          (repeat' (first | (k_unfold; (try dsimp only)) | (walk1 <;> (try dsimp only)) | (dsimp only; walk1) | ((with_reducible rename Post _ _ => hP'); (with_reducible refine Post.of hP' ?_))))
          refine Stop.of ?_
          rename Fr _ _ _ _ => Fx
          rename News _ _ _ _ => Nx
          refine item_listL (News.isList Nx (List.mem_append_right [_, _, _, _, _, _] gk2)) (by omega) (by have := hNB.2; omega) gkk ?_
          (repeat' (first | (k_unfold; (try dsimp only)) | (walk1 <;> (try dsimp only)) | (dsimp only; walk1) | ((with_reducible rename Post _ _ => hP'); (with_reducible refine Post.of hP' ?_))))
          refine Stop.of ?_
          refine mul_int ?_ (IntMulOk.of_left (bits_abs (small_abs hOk.a)))
          (repeat' (first | (k_unfold; (try dsimp only)) | (walk1 <;> (try dsimp only)) | (dsimp only; walk1) | ((with_reducible rename Post _ _ => hP'); (with_reducible refine Post.of hP' ?_))))
          refine Stop.of ?_
          rename Fr _ _ _ _ => Fx
          rename News _ _ _ _ => Nx
          refine item_listL (News.isList Nx (.tail _ (.tail _ (.tail _ (.tail _ (.head _)))))) (by omega) (by have := hNB.2; omega) gi1 ?_
          (repeat' (first | (k_unfold; (try dsimp only)) | (walk1 <;> (try dsimp only)) | (dsimp only; walk1) | ((with_reducible rename Post _ _ => hP'); (with_reducible refine Post.of hP' ?_))))
          refine Stop.of ?_
          rename Fr _ _ _ _ => Fx
          rename News _ _ _ _ => Nx
          refine item_listL (News.isList Nx (List.mem_append_right [_, _, _, _, _, _] gi2)) (by omega) (by have := hNB.2; omega) gik ?_
          (repeat' (first | (k_unfold; (try dsimp only)) | (walk1 <;> (try dsimp only)) | (dsimp only; walk1) | ((with_reducible rename Post _ _ => hP'); (with_reducible refine Post.of hP' ?_))))
          refine Stop.of ?_
          rename Fr _ _ _ _ => Fx
          rename News _ _ _ _ => Nx
          refine item_listL (News.isList Nx (.tail _ (.tail _ (.tail _ (.tail _ (.head _)))))) (by omega) (by have := hNB.2; omega) gk1 ?_
          (repeat' (first | (k_unfold; (try dsimp only)) | (walk1 <;> (try dsimp only)) | (dsimp only; walk1) | ((with_reducible rename Post _ _ => hP'); (with_reducible refine Post.of hP' ?_))))
          refine Stop.of ?_
          rename Fr _ _ _ _ => Fx
          rename News _ _ _ _ => Nx
          refine item_listL (News.isList Nx (List.mem_append_right [_, _, _, _, _, _] gk2)) (by omega) (by have := hNB.2; omega) gkj ?_
          (repeat' (first | (k_unfold; (try dsimp only)) | (walk1 <;> (try dsimp only)) | (dsimp only; walk1) | ((with_reducible rename Post _ _ => hP'); (with_reducible refine Post.of hP' ?_))))
          refine Stop.of ?_
          refine mul_int ?_ (IntMulOk.of_left (bits_abs (small_abs hOk.c)))
          clear gij gik gkk gkj gi1 gi2 gk1 gk2
          (repeat' (first | (k_unfold; (try dsimp only)) | (walk1 <;> (try dsimp only)) | (dsimp only; walk1) | ((with_reducible rename Post _ _ => hP'); (with_reducible refine Post.of hP' ?_))))
          · refine Stop.of ?_
            rename Fr _ _ _ _ => Fx
            rename News _ _ _ _ => Nx
            rename (k : Int) = 0 => hk0
            have hT4 : T₄ = setE T₃ i j (crossP k i j T₃) := by
              rcases hcase with ⟨_, h⟩ | ⟨h, _⟩
              · exact h
              · exfalso; omega
            subst hT4
            obtain ⟨r, e₅, vs₅, g1, g2, g3, g4⟩ := hPT₃.set (j := j) hBd Nx (fun p hp => List.mem_append_right [(I₃, oI₃), (I₂, oI₂), (I₁, oI₁), (OV, listOf #[] 0), (D₂, listOf ys.toArray ys.length), (L' + 1, oT2)] hp) hin
            refine item_listL (News.isList Nx (.tail _ (.tail _ (.tail _ (.tail _ (.head _)))))) (by omega) (by have := hNB.2; omega) g1 ?_
            (repeat' (first | (k_unfold; (try dsimp only)) | (walk1 <;> (try dsimp only)) | (dsimp only; walk1) | ((with_reducible rename Post _ _ => hP'); (with_reducible refine Post.of hP' ?_))))
            refine Stop.of ?_
            rename Fr _ _ _ _ => Fx
            rename News _ _ _ _ => Nx
            obtain ⟨tl₄, hU, hPT₄, hm⟩ := g4 (crossP k i j T₃) _
            refine ksa_set Fx Nx (upd_back (r := [(I₃, oI₃), (I₂, oI₂), (I₁, oI₁), (OV, listOf #[] 0), (D₂, listOf ys.toArray ys.length), (L' + 1, oT2)]) hU (hOff3.ne g2)) g3 (by omega) (by rw [(hPT₃.rect.get hin).2]; omega) (by have := hNB.2; omega) ?_
            intro h₈ F₈ N₈ _ _ _
            simp only [List.cons_append, List.nil_append] at N₈
            clear Fx Nx g4 hU g1 g2 g3
            (repeat' (first | (k_unfold; (try dsimp only)) | (walk1 <;> (try dsimp only)) | (dsimp only; walk1) | ((with_reducible rename Post _ _ => hP'); (with_reducible refine Post.of hP' ?_))))
            have hO4 := hOff3.upd hm
            exact TurnEnd.next ((I₂, oI₂) :: (I₁, oI₁) :: (OV, listOf #[] 0) :: (D₂, listOf ys.toArray ys.length) :: (L' + 1, oT2) :: tl₄) (by assumption) (by assumption) (turn_off (base := [(I₂, oI₂), (I₁, oI₁), (OV, listOf #[] 0), (D₂, listOf ys.toArray ys.length), (L' + 1, oT2)]) hO4 hnI₃) (fun _ h => nomatch h) ⟨_, tl₄, _, _, _, rfl, hT₄', hPT₄, hO4.tail, rfl, rfl, rfl, rfl⟩
          · refine Stop.of ?_
            rename Fr _ _ _ _ => Fx
            rename News _ _ _ _ => Nx
            rename (k : Int) ≠ 0 => hk0
            rcases hcase with ⟨hk0', _⟩ | ⟨_, hb8, hb0, hfm, rfl⟩
            · exfalso; omega
            have ek1 : (k : Int) - 1 = ((k - 1 : Nat) : Int) := by omega
            have hk1n : k - 1 < n := by omega
            obtain ⟨rp, ep, vp, gp1, gp2, gp3⟩ := hPT₃.item hk1n
            obtain ⟨tp, gp4⟩ := gp3 (k - 1) hk1n
            rw [ek1]
            refine item_listL (News.isList Nx (.tail _ (.tail _ (.tail _ (.tail _ (.head _)))))) (by omega) (by have := hNB.2; omega) gp1 ?_
            (repeat' (first | (k_unfold; (try dsimp only)) | (walk1 <;> (try dsimp only)) | (dsimp only; walk1) | ((with_reducible rename Post _ _ => hP'); (with_reducible refine Post.of hP' ?_))))
            refine Stop.of ?_
            rename Fr _ _ _ _ => Fx
            rename News _ _ _ _ => Nx
            rw [ek1]
            refine item_listL (News.isList Nx (List.mem_append_right [_, _, _, _, _, _] gp2)) (by omega) (by have := hNB.2; omega) gp4 ?_
            clear gp1 gp2 gp3 gp4
            (repeat' (first | (k_unfold; (try dsimp only)) | (walk1 <;> (try dsimp only)) | (dsimp only; walk1) | ((with_reducible rename Post _ _ => hP'); (with_reducible refine Post.of hP' ?_))))
            refine Stop.of ?_
            rename Fr _ _ _ _ => Fx
            rename News _ _ _ _ => Nx
            obtain ⟨u30, u37, rest, k30, k37, Nd, hrest, hback⟩ := hPT₃.div (base := [(I₃, oI₃), (I₂, oI₂), (I₁, oI₁), (OV, listOf #[] 0), (D₂, listOf ys.toArray ys.length), (L' + 1, oT2)]) hBd hOff3 Nx
            have hXX : XX (crossP k i j T₃) (ent T₃ (k - 1) (k - 1)) := ⟨hOk.cross.1, hOk.cross.2, by omega, by omega⟩
            k_dflt (refine idm (by assumption) Fx (by assumption) k30 k37 Nd (by assumption) rfl C30 C37 hrest hXX hb0 (by show dp + 1 + 140 < recursionLimit; omega) (by show un + 3 + 980 < cLine; omega) ?_)
            intro t30' t37' rr t1 t2 h₈ tk₈ q30 q37 F₈ N₈ hne hr
            rw [hfm] at N₈
            obtain ⟨tl₄, hPT₄, hOff4, hsub⟩ := hback t30' t37' h₈ _ q30 q37 N₈ (fun p hp => .tail _ hp)
            have N₉ := news_sub (b := (rr, pairOf (.int ((crossP k i j T₃).fdiv (ent T₃ (k - 1) (k - 1))) t1) (.int 0 t2)) :: (I₃, oI₃) :: (I₂, oI₂) :: (I₁, oI₁) :: (OV, listOf #[] 0) :: (D₂, listOf ys.toArray ys.length) :: (L' + 1, oT2) :: tl₄) N₈ (by
              intro p hp
              rcases List.mem_cons.mp hp with rfl | hp
              · exact .head _
              · exact .tail _ (hsub p hp))
            have hne4 : ∀ p ∈ tl₄, p.1 ≠ rr := fun p hp => hne p (hsub p (List.mem_append_right [(I₃, oI₃), (I₂, oI₂), (I₁, oI₁), (OV, listOf #[] 0), (D₂, listOf ys.toArray ys.length), (L' + 1, oT2)] hp))
            clear Fx Nx N₈ Nd hback hrest hsub hne k30 k37
            generalize hqd : (crossP k i j T₃).fdiv (ent T₃ (k - 1) (k - 1)) = qd at *
            (repeat' (first | (k_unfold; (try dsimp only)) | (walk1 <;> (try dsimp only)) | (dsimp only; walk1) | ((with_reducible rename Post _ _ => hP'); (with_reducible refine Post.of hP' ?_))))
            refine Stop.of ?_
            rename Fr _ _ _ _ => Fx
            rename News _ _ _ _ => Nx
            obtain ⟨r, e₅, vs₅, g1, g2, g3, g4⟩ := hPT₄.set (j := j) hBd Nx (fun p hp => .tail _ (List.mem_append_right [(I₃, oI₃), (I₂, oI₂), (I₁, oI₁), (OV, listOf #[] 0), (D₂, listOf ys.toArray ys.length), (L' + 1, oT2)] hp)) hin
            refine item_listL (News.isList Nx (.tail _ (.tail _ (.tail _ (.tail _ (.tail _ (.head _))))))) (by omega) (by have := hNB.2; omega) g1 ?_
            (repeat' (first | (k_unfold; (try dsimp only)) | (walk1 <;> (try dsimp only)) | (dsimp only; walk1) | ((with_reducible rename Post _ _ => hP'); (with_reducible refine Post.of hP' ?_))))
            refine Stop.of ?_
            rename Fr _ _ _ _ => Fx
            rename News _ _ _ _ => Nx
            obtain ⟨tl₅, hU, hPT₅, hm⟩ := g4 qd _
            refine ksa_set Fx Nx (Upd.tail (fun q => hne4 _ g2 q.symm) (upd_back (r := [(I₃, oI₃), (I₂, oI₂), (I₁, oI₁), (OV, listOf #[] 0), (D₂, listOf ys.toArray ys.length), (L' + 1, oT2)]) hU (hOff4.ne g2))) g3 (by omega) (by rw [(hPT₄.rect.get hin).2]; omega) (by have := hNB.2; omega) ?_
            intro h₉ F₉ N₉ _ _ _
            simp only [List.cons_append, List.nil_append] at N₉
            clear Fx Nx g4 hU g1 g2 g3
            (repeat' (first | (k_unfold; (try dsimp only)) | (walk1 <;> (try dsimp only)) | (dsimp only; walk1) | ((with_reducible rename Post _ _ => hP'); (with_reducible refine Post.of hP' ?_))))
            have hO5 := hOff4.upd hm
            exact TurnEnd.next ((I₂, oI₂) :: (I₁, oI₁) :: (OV, listOf #[] 0) :: (D₂, listOf ys.toArray ys.length) :: (L' + 1, oT2) :: tl₅) (by assumption) (news_sub (by assumption) fun p hp => .tail _ hp) (turn_off (base := [(I₂, oI₂), (I₁, oI₁), (OV, listOf #[] 0), (D₂, listOf ys.toArray ys.length), (L' + 1, oT2)]) hO5 hnI₃) (fun _ h => nomatch h) ⟨_, tl₅, _, _, _, rfl, hT₄', hPT₅, hO5.tail, rfl, rfl, rfl, rfl⟩
        · rintro m₃ news₃ h₇ tk₇ ⟨T₃, tl₃, ti, tk1, tsz, rfl, hT₃, hPT₃, hOff₃, hii, hkk, hsz, hov⟩ F₁ N₁
          clear Fx Nx rg
          have hTe : T₃ = T₂ := Option.some.inj (hT₃.symm.trans hT₂)
          subst hTe
          have F₂ : Fr g' L' h₇ m₃ := F₁
          have N₂ := N₁
          clear F₁ N₁
          (repeat' (first | (k_unfold; (try dsimp only)) | (walk1 <;> (try dsimp only)) | (dsimp only; walk1) | ((with_reducible rename Post _ _ => hP'); (with_reducible refine Post.of hP' ?_))))
          exact TurnEnd.next ((I₁, oI₁) :: (OV, listOf #[] 0) :: (D₂, listOf ys.toArray ys.length) :: (L' + 1, oT2) :: tl₃) (by assumption) (by assumption) (turn_off (base := [(I₁, oI₁), (OV, listOf #[] 0), (D₂, listOf ys.toArray ys.length), (L' + 1, oT2)]) hOff₃ hnI₂) (fun _ h => nomatch h) ⟨_, tl₃, _, _, rfl, hT₂', hPT₃, hOff₃.tail, hkk, hsz, hov⟩
      · rintro m₂ news₂ h₆ tk₆ ⟨T₁, tl₂, tk1, tsz, rfl, hT₁, hPT₁, hOff₁, hkk, hsz, hov⟩ F₁ N₁
        clear Fx Nx rg
        have hTe : T₁ = T' := Option.some.inj (hT₁.symm.trans hT')
        subst hTe
        have F₂ : Fr g' L' h₆ m₂ := F₁
        have N₂ := N₁
        clear F₁ N₁
        (repeat' (first | (k_unfold; (try dsimp only)) | (walk1 <;> (try dsimp only)) | (dsimp only; walk1) | ((with_reducible rename Post _ _ => hP'); (with_reducible refine Post.of hP' ?_))))
        exact TurnEnd.next ((OV, listOf #[] 0) :: (D₂, listOf ys.toArray ys.length) :: (L' + 1, oT2) :: tl₂) (by assumption) (by assumption) (turn_off (base := [(OV, listOf #[] 0), (D₂, listOf ys.toArray ys.length), (L' + 1, oT2)]) hOff₁ hnI) (fun _ h => nomatch h) ⟨_, tl₂, _, rfl, hT'', hPT₁, hOff₁.tail, hsz, hov⟩
    · rintro m₁ news₁ h₅ tk₅ ⟨T, tl₁, tsz, rfl, hT, hPT, hOff, hsz, hov⟩ F₁ N₁
      clear Fx Nx rg hP0 hOff0
      have hTe : T = Tf := Option.some.inj (hT.symm.trans hKf)
      subst hTe
      obtain ⟨u2, F₂⟩ := fr_kstO [("size", .int (n : Int) tsz), ("over", .ref OV)] F₁ ⟨hsz, hov, trivial⟩
      have N₂ := N₁
      clear F₁ N₁ hsz hov
      dsimp only [kstB] at F₂
      (repeat' (first | (k_unfold; (try dsimp only)) | (walk1 <;> (try dsimp only)) | (dsimp only; walk1) | ((with_reducible rename Post _ _ => hP'); (with_reducible refine Post.of hP' ?_))))
      refine Stop.of ?_
      rename Fr _ _ _ _ => Fx
      rename News _ _ _ _ => Nx
      have Fy : Fr g' L' h₅ _ := Fx
      k_dflt (refine LCg.ListComp_U (F₀ := Fy) (by with_unfolding_all rfl) (by decide) (by rfl) (by decide) (by rfl) ?_)
      (repeat' (first | (k_unfold; (try dsimp only)) | (walk1 <;> (try dsimp only)) | (dsimp only; walk1) | ((with_reducible rename Post _ _ => hP'); (with_reducible refine Post.of hP' ?_))))
      refine Stop.of ?_
      rename Fr _ _ _ _ => Fx
      rename News _ _ _ _ => Nx
      rename IsRange _ _ _ _ _ _ _ _ => rg
      refine LCg.CompSrc.range (n := n) rfl Fx Nx rg (small_one (by decide) (by decide) (by omega) (by have := hNB.2; omega)) (by rw [rangeSize_nat]; omega) (by have := hNB.2; rw [sizeLine_eq]; omega) fun g => ?_
      refine compRest_inv (n := n) (fun j ys₂ nw => nw = (OV, listOf #[] 0) :: (D₂, listOf ys.toArray ys.length) :: (L' + 1, oT2) :: tl₁ ∧ IntsAre ys₂ ((List.range j).map fun k => ent T k k)) ?_ ?_ n 0 [] _ (by omega) ⟨rfl, .nil⟩
      · rintro j ys₂ nw hj ⟨rfl, hys2⟩ v I₂ oI₂ C₂ oC₂ D₃ m₂ h₆ tk₆ E₂ ⟨tj, rfl⟩ hN₂ hm₂ F₃ N₃ hO₂ hne₂
        clear Fx Nx rg
        rw [Int.zero_add] at hm₂
        refine abs_all fun QC1 hQC1 => ?_
        obtain ⟨r, e₅, vs₅, g1, g2, g3⟩ := hPT.item hj
        obtain ⟨t₅, g4⟩ := g3 j hj
        (repeat' (first | (k_unfold; (try dsimp only)) | (walk1 <;> (try dsimp only)) | (dsimp only; walk1) | ((with_reducible rename Post _ _ => hP'); (with_reducible refine Post.of hP' ?_))))
        refine Stop.of ?_
        rename Fr _ _ _ _ => Fx
        rename News _ _ _ _ => Nx
        refine item_listL (News.isList Nx (.tail _ (.tail _ (.tail _ (.tail _ (.head _)))))) (by omega) (by have := hNB.2; omega) g1 ?_
        (repeat' (first | (k_unfold; (try dsimp only)) | (walk1 <;> (try dsimp only)) | (dsimp only; walk1) | ((with_reducible rename Post _ _ => hP'); (with_reducible refine Post.of hP' ?_))))
        refine Stop.of ?_
        rename Fr _ _ _ _ => Fx
        rename News _ _ _ _ => Nx
        refine item_listL (News.isList Nx (List.mem_append_right [_, _, _, _, _, _] g2)) (by omega) (by have := hNB.2; omega) g4 ?_
        (repeat' (first | (k_unfold; (try dsimp only)) | (walk1 <;> (try dsimp only)) | (dsimp only; walk1) | ((with_reducible rename Post _ _ => hP'); (with_reducible refine Post.of hP' ?_))))
        refine LCg.CompEnd.intro (by assumption) (by assumption) _ (fun p hp => hp) hO₂ trivial ⟨rfl, ?_⟩
        rw [List.range_succ, List.map_append]
        exact hys2.append (.cons _ _ .nil)
      · rintro ys₂ nw ⟨rfl, hys2⟩ D₃ h₆ tk₆ F₃ N₃ hO₃
        clear Fx Nx rg
        (repeat' (first | (k_unfold; (try dsimp only)) | (walk1 <;> (try dsimp only)) | (dsimp only; walk1) | ((with_reducible rename Post _ _ => hP'); (with_reducible refine Post.of hP' ?_))))
        rename_i r _ _ _ _ kF kN _ _
        obtain ⟨led₉, u30, u37, htl, _, _, _, k30, k37⟩ := hPT
        obtain ⟨p30, hp30⟩ := t30_tab k30
        obtain ⟨p37, hp37⟩ := t37_tab k37
        refine hret r D₃ OV ys₂ ys₂.length 0 p30 p37 _ _ (hps ▸ hys2) kF (news_sub kN ?_)
        intro p hp
        rw [htl]
        simp only [List.mem_cons, List.mem_append] at hp ⊢
        rcases hp with h | h | h | h | h | h
        · exact .inl h
        · exact .inr (.inl h)
        · exact .inr (.inr (.inl h))
        · rw [h]; simp [hp37]
        · rw [h]; simp [hp30]
        · simp [h]
end
end Mine

set_option maxHeartbeats 1000000
namespace Mine
noncomputable def low (c : Nat) : Nat := if 65 ≤ c ∧ c ≤ 90 then c + 32 else c
noncomputable def cst (c d : Nat) : Int := if c = d then 0 else if low c = low d then 1 else 2
theorem lower_one {c : Nat} (h : c < 128) : Txt.lower (S [c]) = S [low c] :=
  (by decide +kernel : ∀ c, c < 128 → Txt.lower (S [c]) = S [low c]) c h
theorem cst_le (c d : Nat) : 0 ≤ cst c d ∧ cst c d ≤ 2 := by
  unfold cst
  split
  · omega
  · split <;> omega
theorem cst_self (c : Nat) : cst c c = 0 := by simp [cst]
theorem substC_eq {c d : Nat} (hc : c < 128) (hd : d < 128) : substC c d = cst c d := by
  unfold substC substCost cst
  by_cases h : c = d
  · rw [if_pos h, if_pos (by rw [S_beq]; simp [h])]
  · rw [if_neg h, if_neg (by rw [S_beq]; simp [h])]
    have e1 : Txt.lower (S [c]) = S [low c] := lower_one hc
    have e2 : Txt.lower (S [d]) = S [low d] := lower_one hd
    rw [e1, e2]
    by_cases h2 : low c = low d
    · rw [if_pos h2, if_pos (by rw [S_beq]; simp [h2])]
    · rw [if_neg h2, if_neg (by rw [S_beq]; simp [h2])]
/-- the distance, place by place -/
noncomputable def dpos : List Nat → List Nat → Int
  | a :: as, b :: bs => cst a b + dpos as bs
  | _, _ => 0
theorem dpos_self (x : List Nat) : dpos x x = 0 := by
  induction x with
  | nil => rfl
  | cons a x ih => rw [dpos, cst_self, ih]; rfl
theorem dpos_pre (p a b : List Nat) : dpos (p ++ a) (p ++ b) = dpos a b := by
  induction p with
  | nil => rfl
  | cons c p ih => rw [List.cons_append, List.cons_append, dpos, cst_self, ih, Int.zero_add]
theorem dpos_post (a : List Nat) : ∀ (b s : List Nat), a.length = b.length → dpos (a ++ s) (b ++ s) = dpos a b := by
  induction a with
  | nil => intro b s h; rw [List.eq_nil_of_length_eq_zero h.symm, List.nil_append, dpos_self]; rfl
  | cons c a ih =>
    intro b s h
    cases b with
    | nil => exact absurd h (Nat.succ_ne_zero _)
    | cons d b => rw [List.cons_append, List.cons_append, dpos, dpos, ih b s (Nat.succ.inj h)]
theorem trimPre_spec (x : List Nat) : ∀ (y : List Nat), ∃ p, x = p ++ (trimPre x y).1 ∧ y = p ++ (trimPre x y).2 := by
  induction x with
  | nil => exact fun y => ⟨[], by rw [trimPre_nil (.inl rfl)]; exact ⟨rfl, rfl⟩⟩
  | cons a x ih =>
    intro y
    cases y with
    | nil => exact ⟨[], by rw [trimPre_nil (.inr rfl)]; exact ⟨rfl, rfl⟩⟩
    | cons b y =>
      rw [trimPre]
      by_cases h : a = b
      · obtain ⟨p, h1, h2⟩ := ih y
        rw [if_pos h]
        exact ⟨a :: p, congrArg (a :: ·) h1, h ▸ congrArg (a :: ·) h2⟩
      · rw [if_neg h]
        exact ⟨[], rfl, rfl⟩
theorem trimPost_spec (a b : List Nat) : ∃ s, a = (trimPost a b).1 ++ s ∧ b = (trimPost a b).2 ++ s := by
  obtain ⟨p, h1, h2⟩ := trimPre_spec a.reverse b.reverse
  refine ⟨p.reverse, ?_, ?_⟩
  · unfold trimPost
    rw [← List.reverse_append, ← h1, List.reverse_reverse]
  · unfold trimPost
    rw [← List.reverse_append, ← h2, List.reverse_reverse]
/-- the table's entry -/
noncomputable def DD (C : Nat → Int) (j i : Nat) : Int := if j ≤ i then 2 * ((i : Int) - j) + C j else 2 * ((j : Int) - i) + C i
theorem DD_le {C : Nat → Int} {j i : Nat} (h : j ≤ i) : DD C j i = 2 * ((i : Int) - j) + C j := if_pos h
theorem DD_ge {C : Nat → Int} {j i : Nat} (h : i < j) : DD C j i = 2 * ((j : Int) - i) + C i := if_neg (by omega)
structure Costs (n : Nat) (f : Nat → Nat → Int) (C : Nat → Int) : Prop where
  z : C 0 = 0
  s : ∀ k, k < n → C (k + 1) = C k + f k k
  b : ∀ k, k < n → 0 ≤ f k k ∧ f k k ≤ 2
  o : ∀ i j, i < n → j < n → i ≠ j → f j i = 2
theorem step_min {s d r x : Int} (h1 : x ≤ s) (h2 : x ≤ d + 2) (h3 : x ≤ r + 2) (h4 : s ≤ x ∨ d + 2 ≤ x ∨ r + 2 ≤ x) :
    (if s < (if d < r then d else r) + 2 then s else (if d < r then d else r) + 2) = x := by
  by_cases h : d < r
  · rw [if_pos h]; split <;> omega
  · rw [if_neg h]; split <;> omega
theorem DD_step {n : Nat} {f : Nat → Nat → Int} {C : Nat → Int} (h : Costs n f C) {i j : Nat} (hi : i < n) (hj : j < n) {res : Int} (hr : res = if i = 0 then 2 * (j : Int) else DD C (j + 1) i) :
    (if DD C j i + f j i < (if DD C j (i + 1) < res then DD C j (i + 1) else res) + 2 then DD C j i + f j i else (if DD C j (i + 1) < res then DD C j (i + 1) else res) + 2) = DD C (j + 1) (i + 1) := by
  have hz := h.z
  rcases Nat.lt_trichotomy i j with hij | hij | hij
  · have e1 := h.s i hi
    have e2 := h.b i hi
    have e3 : DD C j (i + 1) = 2 * ((j : Int) - (i + 1 : Nat)) + C (i + 1) := by
      rcases Nat.lt_or_eq_of_le hij with q | q
      · exact DD_ge q
      · rw [← q, DD_le (Nat.le_refl _), Int.sub_self]
    have e4 : res ≥ 2 * ((j : Int) + 1 - i) + C i - 2 := by
      rw [hr]
      split
      · rename_i q; rw [q, hz]; omega
      · rw [DD_ge (Nat.lt_succ_of_lt hij)]; omega
    rw [DD_ge hij, h.o i j hi hj (Nat.ne_of_lt hij), DD_ge (Nat.succ_lt_succ hij), e3, e1]
    refine step_min ?_ ?_ ?_ (.inr (.inl ?_)) <;> omega
  · subst hij
    have e1 := h.s i hi
    have e2 := h.b i hi
    have e4 : res ≥ 2 + C i - 2 := by
      rw [hr]
      split
      · rename_i q; rw [q, hz]; omega
      · rw [DD_ge (Nat.lt_succ_self i)]; omega
    rw [DD_le (Nat.le_refl _), DD_le (Nat.le_succ i), DD_le (Nat.le_refl _), e1]
    refine step_min ?_ ?_ ?_ (.inl ?_) <;> omega
  · have e1 := h.s j hj
    have e2 := h.b j hj
    rw [if_neg (Nat.ne_of_gt (Nat.lt_of_le_of_lt (Nat.zero_le _) hij)), DD_le hij] at hr
    rw [DD_le (Nat.le_of_lt hij), h.o i j hi hj (Nat.ne_of_gt hij), DD_le (Nat.le_succ_of_le (Nat.le_of_lt hij)), DD_le (Nat.succ_le_succ (Nat.le_of_lt hij)), hr, e1]
    refine step_min ?_ ?_ ?_ (.inr (.inr ?_)) <;> omega
theorem getD_set {l : List Int} {i k : Nat} {x : Int} (hi : i < l.length) : (l.set i x).getD k 0 = if k = i then x else l.getD k 0 := by
  rw [List.getD_eq_getElem?_getD, List.getD_eq_getElem?_getD, List.getElem?_set]
  by_cases h : i = k
  · subst h; simp [hi]
  · rw [if_neg h, if_neg (Ne.symm h)]
theorem innerN_spec {n : Nat} {f : Nat → Nat → Int} {C : Nat → Int} {j c : Nat} {a : List Nat} {row : List Int} (hC : Costs n f C) (hj : j < n) (hf : ∀ i, i < n → substC c (a.getD i 0) = f j i)
    (hrow : ∀ l, l < n → row.getD l 0 = DD C j (l + 1)) (hlen : row.length = n) (i : Nat) : i ≤ n →
    (innerN c a ((j : Int) * 2, (j : Int) * 2, 9223372036854775807, row) i).1 = DD C j i ∧
    (innerN c a ((j : Int) * 2, (j : Int) * 2, 9223372036854775807, row) i).2.1 = (if i = 0 then 2 * (j : Int) else DD C (j + 1) i) ∧
    (∀ l, l < n → (innerN c a ((j : Int) * 2, (j : Int) * 2, 9223372036854775807, row) i).2.2.2.getD l 0 = if l < i then DD C (j + 1) (l + 1) else DD C j (l + 1)) ∧
    (j < i → (innerN c a ((j : Int) * 2, (j : Int) * 2, 9223372036854775807, row) i).2.2.1 ≤ DD C (j + 1) (j + 1)) := by
  induction i with
  | zero =>
    intro _
    refine ⟨?_, ?_, fun l hl => ?_, fun h => absurd h (by omega)⟩
    · show (j : Int) * 2 = DD C j 0
      have hz := hC.z
      by_cases h : j = 0
      · subst h; rw [DD_le (Nat.le_refl _), hz]; omega
      · rw [DD_ge (by omega), hz]; omega
    · show (j : Int) * 2 = _
      rw [if_pos rfl]; omega
    · rw [if_neg (by omega)]; exact hrow l hl
  | succ i ih =>
    intro hi
    have hi' : i < n := hi
    obtain ⟨h1, h2, h3, h4⟩ := ih (by omega)
    have hl := innerN_len c a ((j : Int) * 2, (j : Int) * 2, 9223372036854775807, row) i
    have hl' : (innerN c a ((j : Int) * 2, (j : Int) * 2, 9223372036854775807, row) i).2.2.2.length = n := by rw [hl]; exact hlen
    rw [innerN]
    generalize innerN c a ((j : Int) * 2, (j : Int) * 2, 9223372036854775807, row) i = st at *
    have h5 := h3 i hi'
    rw [if_neg (by omega)] at h5
    have hR : innerR c a i st = DD C (j + 1) (i + 1) := by
      unfold innerR
      rw [h1, hf i hi', h5]
      exact DD_step hC hi' hj h2
    refine ⟨?_, ?_, fun l hln => ?_, fun h => ?_⟩
    · show st.2.2.2.getD i 0 = _
      exact h5
    · show innerR c a i st = _
      rw [if_neg (by omega)]; exact hR
    · show (st.2.2.2.set i (innerR c a i st)).getD l 0 = _
      rw [getD_set (by omega), hR, h3 l hln]
      by_cases h : l = i
      · subst h; rw [if_pos rfl, if_pos (by omega)]
      · rw [if_neg h]
        by_cases h' : l < i
        · rw [if_pos h', if_pos (by omega)]
        · rw [if_neg h', if_neg (by omega)]
    · show (if innerR c a i st < st.2.2.1 then innerR c a i st else st.2.2.1) ≤ _
      by_cases h' : j < i
      · have := h4 h'
        split <;> omega
      · have : j = i := by omega
        subst this
        rw [hR]
        split <;> omega
theorem outerN_spec {n : Nat} {f : Nat → Nat → Int} {C : Nat → Int} {a b : List Nat} (hC : Costs n f C) (hn1 : n ≤ 5) (hf : ∀ j i, j < n → i < n → substC (b.getD j 0) (a.getD i 0) = f j i) (ha : a.length = n) (hCb : ∀ k, k ≤ n → C k ≤ 2 * (k : Int))
    (j : Nat) : j ≤ n → ∃ r row, outerN a b 10 (0, row0 n) j = some (r, row) ∧ row.length = n ∧ (∀ l, l < n → row.getD l 0 = DD C j (l + 1)) ∧ (r = if j = 0 then 0 else DD C j n) := by
  induction j with
  | zero =>
    intro _
    refine ⟨0, row0 n, rfl, by simp [row0], fun l hl => ?_, rfl⟩
    have hz := hC.z
    rw [DD_le (Nat.zero_le _), hz]
    simp [row0, hl]
    omega
  | succ j ih =>
    intro hj
    obtain ⟨r, row, h1, h2, h3, h4⟩ := ih (by omega)
    have hj' : j < n := hj
    obtain ⟨g1, g2, g3, g4⟩ := innerN_spec (c := b.getD j 0) hC hj' (fun i hi => hf j i hj' hi) h3 h2 n (Nat.le_refl _)
    have hl := innerN_len (b.getD j 0) a ((j : Int) * 2, (j : Int) * 2, 9223372036854775807, row) n
    have g5 := g4 hj'
    rw [DD_le (Nat.le_refl _)] at g5
    have g6 := hCb (j + 1) hj
    refine ⟨(innerN (b.getD j 0) a ((j : Int) * 2, (j : Int) * 2, 9223372036854775807, row) n).2.1, (innerN (b.getD j 0) a ((j : Int) * 2, (j : Int) * 2, 9223372036854775807, row) n).2.2.2, ?_, ?_, fun l hln => ?_, ?_⟩
    · rw [outerN, h1, Option.bind_some]
      unfold outerF
      dsimp only
      rw [ha, if_neg (by omega)]
    · rw [hl]; exact h2
    · rw [g3 l hln, if_pos hln]
    · rw [g2, if_neg (by omega), if_neg (by omega)]
theorem dpos_take {a : List Nat} : ∀ {b : List Nat} {k : Nat}, k < a.length → k < b.length → dpos (a.take (k + 1)) (b.take (k + 1)) = dpos (a.take k) (b.take k) + cst (a.getD k 0) (b.getD k 0) := by
  induction a with
  | nil => exact fun h _ => absurd h (Nat.not_lt_zero _)
  | cons c a ih =>
    intro b k h1 h2
    cases b with
    | nil => exact absurd h2 (Nat.not_lt_zero _)
    | cons d b =>
      cases k with
      | zero => exact Int.add_comm _ _
      | succ k =>
        have := ih (b := b) (k := k) (Nat.lt_of_succ_lt_succ h1) (Nat.lt_of_succ_lt_succ h2)
        rw [List.take_succ_cons, List.take_succ_cons, dpos, this, List.take_succ_cons, List.take_succ_cons, dpos, Int.add_assoc]
        rfl
structure Good (x : List Nat) : Prop where
  len : x.length = 5
  let' : ∀ j, j < 5 → x.getD j 0 = 97 + j ∨ x.getD j 0 = 65 + j ∨ x.getD j 0 = 48 + j
theorem cst_symm (c d : Nat) : cst c d = cst d c := by
  unfold cst
  by_cases h : c = d
  · subst h; rfl
  · rw [if_neg h, if_neg (Ne.symm h)]
    by_cases h2 : low c = low d
    · rw [if_pos h2, if_pos h2.symm]
    · rw [if_neg h2, if_neg (Ne.symm h2)]
theorem cst_tab : ∀ i, i < 5 → ∀ j, j < 5 → i ≠ j → ∀ u ∈ [97, 65, 48], ∀ v ∈ [97, 65, 48], cst (u + i) (v + j) = 2 := by decide +kernel
theorem cst_apart {c d i j : Nat} (hc : c = 97 + i ∨ c = 65 + i ∨ c = 48 + i) (hd : d = 97 + j ∨ d = 65 + j ∨ d = 48 + j) (hi : i < 5) (hj : j < 5) (h : i ≠ j) : cst c d = 2 := by
  have key := cst_tab i hi j hj h
  have m0 : 97 ∈ [97, 65, 48] := .head _
  have m1 : 65 ∈ [97, 65, 48] := .tail _ (.head _)
  have m2 : 48 ∈ [97, 65, 48] := .tail _ (.tail _ (.head _))
  rcases hc with rfl | rfl | rfl <;> rcases hd with rfl | rfl | rfl
  · exact key _ m0 _ m0
  · exact key _ m0 _ m1
  · exact key _ m0 _ m2
  · exact key _ m1 _ m0
  · exact key _ m1 _ m1
  · exact key _ m1 _ m2
  · exact key _ m2 _ m0
  · exact key _ m2 _ m1
  · exact key _ m2 _ m2
theorem mid_get {p a s x : List Nat} (h : x = p ++ (a ++ s)) {i : Nat} (hi : i < a.length) : a.getD i 0 = x.getD (p.length + i) 0 := by
  subst h
  rw [List.getD_eq_getElem?_getD, List.getD_eq_getElem?_getD, List.getElem?_append_right (by omega), show p.length + i - p.length = i by omega, List.getElem?_append_left hi]
theorem lev_good {x y : List Nat} (hx : Good x) (hy : Good y) : levP x y 10 = some (dpos x y) := by
  by_cases e : x = y
  · subst e
    simp only [levP, if_pos, dpos_self]
  obtain ⟨p, hp1, hp2⟩ := trimPre_spec x y
  obtain ⟨s, hs1, hs2⟩ := trimPost_spec (trimPre x y).1 (trimPre x y).2
  simp only [levP, if_neg e]
  generalize (trimPost (trimPre x y).1 (trimPre x y).2).1 = a at *
  generalize (trimPost (trimPre x y).1 (trimPre x y).2).2 = b at *
  rw [hs1] at hp1
  rw [hs2] at hp2
  have lx := hx.len
  have ly := hy.len
  have hab : a.length = b.length := by
    have h1 := congrArg List.length hp1
    have h2 := congrArg List.length hp2
    simp only [List.length_append] at h1 h2
    omega
  have hpl : p.length + a.length ≤ 5 := by
    have h1 := congrArg List.length hp1
    simp only [List.length_append] at h1
    omega
  have hd : dpos x y = dpos a b := by
    rw [hp1, hp2, dpos_pre, dpos_post _ _ _ hab]
  rw [hd]
  by_cases hz : a = [] ∨ b = []
  · rw [if_pos hz]
    have ha0 : a.length = 0 := by
      rcases hz with h | h
      · rw [h]; rfl
      · rw [hab, h]; rfl
    rw [List.eq_nil_of_length_eq_zero ha0, List.eq_nil_of_length_eq_zero (hab.symm.trans ha0)]
    rfl
  rw [if_neg hz, if_neg (by omega)]
  have la : ∀ i, i < a.length → a.getD i 0 = 97 + (p.length + i) ∨ a.getD i 0 = 65 + (p.length + i) ∨ a.getD i 0 = 48 + (p.length + i) := fun i hi => by
    rw [mid_get hp1 hi]; exact hx.let' _ (by omega)
  have lb : ∀ i, i < b.length → b.getD i 0 = 97 + (p.length + i) ∨ b.getD i 0 = 65 + (p.length + i) ∨ b.getD i 0 = 48 + (p.length + i) := fun i hi => by
    rw [mid_get hp2 hi]; exact hy.let' _ (by omega)
  have hs : ∀ j i, j < a.length → i < a.length → substC (b.getD j 0) (a.getD i 0) = cst (b.getD j 0) (a.getD i 0) := fun j i hj hi => by
    have h1 := la i hi
    have h2 := lb j (by omega)
    exact substC_eq (by omega) (by omega)
  have hC : Costs a.length (fun j i => cst (b.getD j 0) (a.getD i 0)) (fun k => dpos (a.take k) (b.take k)) := by
    refine ⟨rfl, fun k hk => ?_, fun k _ => cst_le _ _, fun i j hi hj hij => ?_⟩
    · show dpos _ _ = dpos _ _ + cst _ _
      rw [dpos_take hk (by omega), cst_symm]
    · exact cst_apart (lb j (by omega)) (la i hi) (by omega) (by omega) (by omega)
  have hCb : ∀ k, k ≤ a.length → dpos (a.take k) (b.take k) ≤ 2 * (k : Int) := by
    intro k
    induction k with
    | zero => intro _; exact Int.le_refl _
    | succ k ih =>
      intro hk
      have h1 := ih (by omega)
      have h2 := hC.s k (by omega)
      have h3 := hC.b k (by omega)
      omega
  obtain ⟨r, row, h1, _, _, h4⟩ := outerN_spec hC (by omega) hs rfl hCb a.length (Nat.le_refl _)
  rw [← hab, h1]
  have hne : a.length ≠ 0 := fun q => hz (.inl (List.eq_nil_of_length_eq_zero q))
  rw [h4, if_neg hne, DD_le (Nat.le_refl _)]
  show some _ = some _
  rw [List.take_of_length_le (Nat.le_refl _), List.take_of_length_le (by omega)]
  congr 1
  show 2 * ((a.length : Int) - a.length) + dpos a b = dpos a b
  omega
end Mine
set_option maxHeartbeats 1000000
namespace Mine
/-- one entry -/
noncomputable def stepE (z : Bool) (pk rk prev a c : Int) : Option Int :=
  if small8 a && small8 pk && small8 rk && small8 c then
    if z then some (a * pk - rk * c)
    else if small8 prev && !(prev == 0) && ((a * pk - rk * c).fmod prev == 0) then some ((a * pk - rk * c).fdiv prev) else none
  else none
/-- one row -/
noncomputable def rowE (z : Bool) (pk rk prev : Int) : List Int → List Int → Option (List Int)
  | a :: as, c :: cs =>
    match stepE z pk rk prev a c with
    | none => none
    | some x =>
      match rowE z pk rk prev as cs with
      | none => none
      | some xs => some (x :: xs)
  | _, _ => some []
/-- the rows below the pivot's -/
noncomputable def rowsE (z : Bool) (pk prev : Int) (pt : List Int) : List (List Int) → Option (List (List Int))
  | [] => some []
  | [] :: _ => none
  | (rk :: rt) :: rs =>
    match rowE z pk rk prev rt pt with
    | none => none
    | some x =>
      match rowsE z pk prev pt rs with
      | none => none
      | some xs => some (x :: xs)
noncomputable def elimE (z : Bool) (prev : Int) : Nat → List (List Int) → Option (List Int)
  | 0, _ => some []
  | _ + 1, [] => none
  | _ + 1, [] :: _ => none
  | f + 1, (pk :: pt) :: rs =>
    match rowsE z pk prev pt rs with
    | none => none
    | some M =>
      match elimE false pk f M with
      | none => none
      | some ps => some (pk :: ps)
noncomputable abbrev Cl := Nat × Bool
noncomputable def clsStep (st : WSt) (c : Cl) : WSt := wordStep ((List.replicate c.1 (0 : Int)).foldl wordStep st) (if c.2 then 1 else 256)
noncomputable def wt (c : Cl) : Int := if c.2 then 1 else 2
noncomputable def distM (ws : List (List Nat)) : List (List Int) := ws.map fun x => ws.map fun y => dpos x y
noncomputable def goodB (x : List Nat) : Bool := x.length == 5 && (List.range 5).all fun j => (x.getD j 0 == 97 + j) || (x.getD j 0 == 65 + j) || (x.getD j 0 == 48 + j)
noncomputable def checkW (n : Nat) (ws : List (List Nat)) (due : List Int) : Bool := (ws.length == n) && ws.all goodB && (elimE true 0 n (swap2 (distM ws)) == some due)
/-- all ways of going on, each tree once -/
noncomputable def explore (n : Nat) : Nat → WSt → List Int → Bool
  | 0, st, w => checkW n st.words (dueP w)
  | f + 1, st, w => (List.range (min 3 st.pile.length)).all fun k => explore n f (clsStep st (k, true)) (w ++ [1]) && explore n f (clsStep st (k, false)) (w ++ [2])
noncomputable def st0 : WSt := wordStep word0 300
theorem check2 : explore 4 2 st0 [2] = true := by decide +kernel
theorem check3 : explore 5 3 st0 [2] = true := by decide +kernel
theorem check4a : explore 6 3 (clsStep st0 (0, true)) [2, 1] = true := by decide +kernel
theorem check4b : explore 6 3 (clsStep st0 (0, false)) [2, 2] = true := by decide +kernel
theorem check4c : explore 6 3 (clsStep st0 (1, true)) [2, 1] = true := by decide +kernel
theorem check4d : explore 6 3 (clsStep st0 (1, false)) [2, 2] = true := by decide +kernel
theorem check4 : explore 6 4 st0 [2] = true := by
  show ((List.range 2).all fun k => explore 6 3 (clsStep st0 (k, true)) ([2] ++ [1]) && explore 6 3 (clsStep st0 (k, false)) ([2] ++ [2])) = true
  show (((explore 6 3 (clsStep st0 (0, true)) [2, 1] && explore 6 3 (clsStep st0 (0, false)) [2, 2])) && ((explore 6 3 (clsStep st0 (1, true)) [2, 1] && explore 6 3 (clsStep st0 (1, false)) [2, 2]) && true)) = true
  rw [check4a, check4b, check4c, check4d]
  rfl
end Mine

set_option maxHeartbeats 1000000
namespace Mine
theorem pivStep_stepE (k i j : Nat) (T : List (List Int)) (prev : Int) (hp : k ≠ 0 → prev = ent T (k - 1) (k - 1)) :
    pivStep k i j T = (stepE (k == 0) (ent T k k) (ent T i k) prev (ent T i j) (ent T k j)).map (setE T i j) := by
  unfold pivStep stepE
  by_cases hg : (small8 (ent T i j) && small8 (ent T k k) && small8 (ent T i k) && small8 (ent T k j)) = true
  · rw [if_pos hg, if_pos hg]
    dsimp only
    by_cases hk : k = 0
    · subst hk; rfl
    · have hkb : (k == 0) = false := by simp [hk]
      rw [if_neg hk, hkb, hp hk]
      simp only [Bool.false_eq_true, if_false]
      by_cases h2 : (small8 (ent T (k - 1) (k - 1)) && !(ent T (k - 1) (k - 1) == 0) && ((ent T i j * ent T k k - ent T i k * ent T k j).fmod (ent T (k - 1) (k - 1)) == 0)) = true
      · rw [if_pos h2, if_pos h2]; rfl
      · rw [if_neg h2, if_neg h2]; rfl
  · rw [if_neg hg, if_neg hg]; rfl
theorem rowE_spec {z : Bool} {pk rk prev : Int} {as : List Int} : ∀ {cs xs : List Int}, rowE z pk rk prev as cs = some xs → as.length = cs.length →
    xs.length = as.length ∧ ∀ c, c < as.length → stepE z pk rk prev (as.getD c 0) (cs.getD c 0) = some (xs.getD c 0) := by
  induction as with
  | nil =>
    intro cs xs h hl
    rw [List.eq_nil_of_length_eq_zero hl.symm, rowE] at h
    · exact ⟨congrArg List.length (Option.some.inj h).symm, fun c hc => absurd hc (Nat.not_lt_zero _)⟩
    all_goals exact fun _ _ _ _ q => absurd q (List.cons_ne_nil _ _).symm
  | cons a as ih =>
    intro cs xs h hl
    cases cs with
    | nil => exact absurd hl (Nat.succ_ne_zero _)
    | cons c cs =>
      rw [rowE] at h
      cases h1 : stepE z pk rk prev a c with
      | none => rw [h1] at h; exact absurd h.symm (Option.some_ne_none _)
      | some x =>
        rw [h1] at h
        cases h2 : rowE z pk rk prev as cs with
        | none => rw [h2] at h; exact absurd h.symm (Option.some_ne_none _)
        | some ys =>
          rw [h2] at h
          rw [← Option.some.inj h]
          obtain ⟨e1, e2⟩ := ih h2 (Nat.succ.inj hl)
          refine ⟨congrArg Nat.succ e1, fun d hd => ?_⟩
          cases d with
          | zero => exact h1
          | succ d => exact e2 d (Nat.lt_of_succ_lt_succ hd)
theorem rowsE_spec {z : Bool} {pk prev : Int} {pt : List Int} {rs : List (List Int)} : ∀ {M : List (List Int)}, rowsE z pk prev pt rs = some M →
    M.length = rs.length ∧ ∀ d, d < rs.length → ∃ rk rt, rs.getD d [] = rk :: rt ∧ rowE z pk rk prev rt pt = some (M.getD d []) := by
  induction rs with
  | nil =>
    intro M h
    exact ⟨congrArg List.length (Option.some.inj h).symm, fun c hc => absurd hc (Nat.not_lt_zero _)⟩
  | cons r rs ih =>
    intro M h
    cases r with
    | nil => exact absurd h.symm (Option.some_ne_none _)
    | cons rk rt =>
      rw [rowsE] at h
      cases h1 : rowE z pk rk prev rt pt with
      | none => rw [h1] at h; exact absurd h.symm (Option.some_ne_none _)
      | some x =>
        rw [h1] at h
        cases h2 : rowsE z pk prev pt rs with
        | none => rw [h2] at h; exact absurd h.symm (Option.some_ne_none _)
        | some ys =>
          rw [h2] at h
          rw [← Option.some.inj h]
          obtain ⟨e1, e2⟩ := ih h2
          refine ⟨congrArg Nat.succ e1, fun d hd => ?_⟩
          cases d with
          | zero => exact ⟨rk, rt, rfl, h1⟩
          | succ d => exact e2 d (Nat.lt_of_succ_lt_succ hd)
theorem getD_setL {T : List (List Int)} {i r : Nat} {x : List Int} (hi : i < T.length) : (T.set i x).getD r [] = if r = i then x else T.getD r [] := by
  rw [List.getD_eq_getElem?_getD, List.getD_eq_getElem?_getD, List.getElem?_set]
  by_cases h : i = r
  · subst h; simp [hi]
  · rw [if_neg h, if_neg (Ne.symm h)]
theorem ent_set {T : List (List Int)} {i r s : Nat} {x : List Int} (hi : i < T.length) : ent (T.set i x) r s = if r = i then x.getD s 0 else ent T r s := by
  unfold ent
  rw [getD_setL hi]
  split <;> rfl
/-- a row half way -/
noncomputable def half (R xs : List Int) (k c : Nat) : List Int := (R.take (k + 1) ++ xs.take c) ++ R.drop (k + 1 + c)
theorem half_len {R xs : List Int} {k c : Nat} (hk : k < R.length) (hx : xs.length = R.length - (k + 1)) (hc : c ≤ xs.length) : (R.take (k + 1) ++ xs.take c).length = k + 1 + c := by
  rw [List.length_append, List.length_take, List.length_take]; omega
theorem half_low {R xs : List Int} {k c s : Nat} (hk : k < R.length) (hs : s ≤ k) : (half R xs k c).getD s 0 = R.getD s 0 := by
  unfold half
  rw [List.getD_eq_getElem?_getD, List.getD_eq_getElem?_getD, List.append_assoc, List.getElem?_append_left (by rw [List.length_take]; omega), List.getElem?_take, if_pos (by omega)]
theorem half_at {R xs : List Int} {k c : Nat} (hk : k < R.length) (hx : xs.length = R.length - (k + 1)) (hc : c ≤ xs.length) : (half R xs k c).getD (k + 1 + c) 0 = R.getD (k + 1 + c) 0 := by
  unfold half
  have hl := half_len hk hx hc
  rw [List.getD_eq_getElem?_getD, List.getD_eq_getElem?_getD, List.getElem?_append_right (by omega), hl, Nat.sub_self, List.getElem?_drop, Nat.add_zero]
theorem half_set {R xs : List Int} {k c : Nat} (hk : k < R.length) (hx : xs.length = R.length - (k + 1)) (hc : c < xs.length) : (half R xs k c).set (k + 1 + c) (xs.getD c 0) = half R xs k (c + 1) := by
  unfold half
  have hl := half_len hk hx (Nat.le_of_lt hc)
  rw [List.set_append_right _ _ (by omega), hl, Nat.sub_self]
  have e1 : R.drop (k + 1 + c) = R.getD (k + 1 + c) 0 :: R.drop (k + 1 + (c + 1)) := by
    rw [List.drop_eq_getElem_cons (by omega), List.getD_eq_getElem?_getD, List.getElem?_eq_getElem (by omega)]
    rfl
  have e2 : xs.take (c + 1) = xs.take c ++ [xs.getD c 0] := by
    rw [List.take_add_one, List.getD_eq_getElem?_getD, List.getElem?_eq_getElem hc]
    rfl
  rw [e1, e2, List.set_cons_zero, List.append_assoc, List.append_assoc, List.append_assoc]
  rfl
theorem half_zero {R xs : List Int} {k : Nat} : half R xs k 0 = R := by
  unfold half
  rw [List.take_zero, List.append_nil, Nat.add_zero, List.take_append_drop]
theorem pivJ_rowE {n k i : Nat} {T : List (List Int)} {prev : Int} {xs : List Int} (hT : Rect n T) (hk : k < n) (hi : i < n) (hki : k < i) (hp : k ≠ 0 → prev = ent T (k - 1) (k - 1))
    (h : rowE (k == 0) (ent T k k) (ent T i k) prev ((T.getD i []).drop (k + 1)) ((T.getD k []).drop (k + 1)) = some xs) :
    pivJ n k i T = some (T.set i ((T.getD i []).take (k + 1) ++ xs)) ∧ xs.length = n - (k + 1) := by
  have lT := hT.len
  have li := (hT.get hi).2
  have lk := (hT.get hk).2
  obtain ⟨e1, e2⟩ := rowE_spec h (by rw [List.length_drop, List.length_drop, li, lk])
  rw [List.length_drop, li] at e1 e2
  refine ⟨?_, e1⟩
  have key : ∀ c, c ≤ n - (k + 1) → iterO (fun c => pivStep k i (k + 1 + c)) T c = some (T.set i (half (T.getD i []) xs k c)) := by
    intro c
    induction c with
    | zero =>
      intro _
      rw [half_zero]
      have := (hT.get hi).1
      rw [show T.set i (T.getD i []) = T from List.ext_getElem? fun r => by
        rw [List.getElem?_set]
        split
        · rename_i q; subst q; rw [if_pos (by omega), this]
        · rfl]
      rfl
    | succ c ih =>
      intro hc
      rw [iterO, ih (by omega), Option.bind_some]
      have hrow : (half (T.getD i []) xs k c).getD k 0 = (T.getD i []).getD k 0 := half_low (by omega) (Nat.le_refl _)
      have hat := half_at (R := T.getD i []) (xs := xs) (k := k) (c := c) (by omega) (by omega) (by omega)
      rw [pivStep_stepE k i (k + 1 + c) _ prev (fun q => by rw [ent_set (by omega), if_neg (by omega)]; exact hp q)]
      rw [ent_set (by omega), ent_set (by omega), ent_set (by omega), ent_set (by omega), if_neg (by omega), if_pos rfl, if_pos rfl, if_neg (by omega), hrow, hat]
      have h2 := e2 c (by omega)
      have g1 : ((T.getD i []).drop (k + 1)).getD c 0 = (T.getD i []).getD (k + 1 + c) 0 := by
        rw [List.getD_eq_getElem?_getD, List.getElem?_drop, ← List.getD_eq_getElem?_getD]
      have g2 : ((T.getD k []).drop (k + 1)).getD c 0 = (T.getD k []).getD (k + 1 + c) 0 := by
        rw [List.getD_eq_getElem?_getD, List.getElem?_drop, ← List.getD_eq_getElem?_getD]
      rw [g1, g2] at h2
      show Option.map _ (stepE (k == 0) (ent T k k) (ent T i k) prev ((T.getD i []).getD (k + 1 + c) 0) ((T.getD k []).getD (k + 1 + c) 0)) = _
      rw [h2, Option.map_some]
      congr 1
      unfold setE
      rw [getD_setL (by omega), if_pos rfl, List.set_set, half_set (by omega) (by omega) (by omega)]
  unfold pivJ
  rw [key _ (Nat.le_refl _)]
  unfold half
  rw [show xs.take (n - (k + 1)) = xs from List.take_of_length_le (by omega), show (T.getD i []).drop (k + 1 + (n - (k + 1))) = [] from List.drop_eq_nil_of_le (by omega), List.append_nil]
theorem iterO_shift {α : Type} {f : Nat → α → Option α} {a : α} {n : Nat} : iterO f a (n + 1) = (f 0 a).bind fun b => iterO (fun c => f (c + 1)) b n := by
  induction n with
  | zero =>
    show (some a).bind (f 0) = (f 0 a).bind some
    rw [Option.bind_some, Option.bind_fun_some]
  | succ n ih =>
    rw [iterO, ih, Option.bind_assoc]
    rfl
theorem sub_get {n k d : Nat} {T : List (List Int)} (hT : Rect n T) (hd : k + d < n) (e : Nat) : ((T.drop k).map (·.drop e)).getD d [] = (T.getD (k + d) []).drop e := by
  have h := (hT.get hd).1
  rw [List.getD_eq_getElem?_getD, List.getElem?_map, List.getElem?_drop, h]
  rfl
theorem getElem_getD {l : List Int} {k : Nat} (h : k < l.length) : l[k] = l.getD k 0 := by
  rw [List.getD_eq_getElem?_getD, List.getElem?_eq_getElem h]
  rfl
theorem row_cons {n k r : Nat} {T : List (List Int)} (hT : Rect n T) (hr : r < n) (hk : k < n) : (T.getD r []).drop k = ent T r k :: (T.getD r []).drop (k + 1) := by
  have hl := (hT.get hr).2
  rw [List.drop_eq_getElem_cons (by omega)]
  congr 1
  exact getElem_getD _
theorem ent_of_row {T T' : List (List Int)} {r s : Nat} (h : T'.getD r [] = T.getD r []) : ent T' r s = ent T r s := by
  unfold ent; rw [h]
structure Mid (n k c : Nat) (T M T' : List (List Int)) : Prop where
  rect : Rect n T'
  same : ∀ r, r < k + 1 ∨ k + 1 + c ≤ r → T'.getD r [] = T.getD r []
  done : ∀ d, d < c → (T'.getD (k + 1 + d) []).drop (k + 1) = M.getD d []
theorem pivI_rowsE {n k : Nat} {T M : List (List Int)} {prev : Int} (hT : Rect n T) (hk : k < n) (hp : k ≠ 0 → prev = ent T (k - 1) (k - 1))
    (h : rowsE (k == 0) (ent T k k) prev ((T.getD k []).drop (k + 1)) ((T.drop (k + 1)).map (·.drop k)) = some M) :
    ∃ T', pivI n k T = some T' ∧ Mid n k (n - (k + 1)) T M T' := by
  have lT := hT.len
  obtain ⟨e1, e2⟩ := rowsE_spec h
  rw [List.length_map, List.length_drop, lT] at e1 e2
  have key : ∀ c, c ≤ n - (k + 1) → ∃ T', iterO (fun c => pivJ n k (k + 1 + c)) T c = some T' ∧ Mid n k c T M T' := by
    intro c
    induction c with
    | zero =>
      intro _
      exact ⟨T, rfl, hT, fun _ _ => rfl, fun d hd => absurd hd (Nat.not_lt_zero _)⟩
    | succ c ih =>
      intro hc
      obtain ⟨T₁, h1, hM⟩ := ih (by omega)
      obtain ⟨rk, rt, g1, g2⟩ := e2 c (by omega)
      rw [sub_get hT (by omega), row_cons hT (by omega) hk, List.cons.injEq] at g1
      obtain ⟨rfl, rfl⟩ := g1
      have sk := hM.same k (.inl (by omega))
      have si := hM.same (k + 1 + c) (.inr (Nat.le_refl _))
      have hp' : k ≠ 0 → prev = ent T₁ (k - 1) (k - 1) := fun q => by
        rw [ent_of_row (hM.same (k - 1) (.inl (by omega)))]; exact hp q
      rw [← sk, ← si, ← ent_of_row sk, ← ent_of_row si] at g2
      obtain ⟨j1, j2⟩ := pivJ_rowE hM.rect hk (by omega) (by omega) hp' g2
      have lT₁ := hM.rect.len
      have li := (hM.rect.get (show k + 1 + c < n by omega)).2
      refine ⟨_, by rw [iterO, h1, Option.bind_some]; exact j1, ?_, ?_, ?_⟩
      · refine ⟨by rw [List.length_set]; exact lT₁, fun r hr => ?_⟩
        rcases List.mem_or_eq_of_mem_set hr with hr | rfl
        · exact hM.rect.row r hr
        · rw [List.length_append, List.length_take, j2, li]; omega
      · intro r hr
        rw [getD_setL (by omega), if_neg (by omega)]
        exact hM.same r (by omega)
      · intro d hd
        rw [getD_setL (by omega)]
        by_cases q : d = c
        · subst q
          rw [if_pos rfl, List.drop_left' (by rw [List.length_take, li]; omega)]
        · rw [if_neg (by omega)]
          exact hM.done d (by omega)
  obtain ⟨T', h1, hM⟩ := key _ (Nat.le_refl _)
  exact ⟨T', h1, hM⟩
theorem elim_open {n f k : Nat} {T : List (List Int)} {prev : Int} {ps : List Int} (hT : Rect n T) (hk : k < n) (h : elimE (k == 0) prev (f + 1) ((T.drop k).map (·.drop k)) = some ps) :
    ∃ M ps', rowsE (k == 0) (ent T k k) prev ((T.getD k []).drop (k + 1)) ((T.drop (k + 1)).map (·.drop k)) = some M ∧ elimE false (ent T k k) f M = some ps' ∧ ps = ent T k k :: ps' := by
  have lT := hT.len
  have e0 : (T.drop k).map (·.drop k) = (ent T k k :: (T.getD k []).drop (k + 1)) :: (T.drop (k + 1)).map (·.drop k) := by
    rw [List.drop_eq_getElem_cons (by omega), List.map_cons]
    congr 1
    have : T[k]'(by omega) = T.getD k [] := by
      rw [List.getD_eq_getElem?_getD, List.getElem?_eq_getElem (by omega)]; rfl
    rw [this]
    exact row_cons hT hk hk
  rw [e0, elimE] at h
  cases h1 : rowsE (k == 0) (ent T k k) prev ((T.getD k []).drop (k + 1)) ((T.drop (k + 1)).map (·.drop k)) with
  | none => rw [h1] at h; cases h
  | some M =>
    rw [h1] at h
    dsimp only at h
    cases h2 : elimE false (ent T k k) f M with
    | none => rw [h2] at h; cases h
    | some ps' =>
      rw [h2] at h
      cases h
      exact ⟨M, ps', rfl, h2, rfl⟩
theorem elim_piv {n : Nat} (f : Nat) : ∀ (k : Nat) (T : List (List Int)) (prev : Int) (ps : List Int), k + (f + 1) = n → Rect n T → (k ≠ 0 → prev = ent T (k - 1) (k - 1)) →
    elimE (k == 0) prev (f + 1) ((T.drop k).map (·.drop k)) = some ps →
    ∃ Tf, iterO (fun c => pivI n (k + c)) T f = some Tf ∧ (∀ r, r ≤ k → Tf.getD r [] = T.getD r []) ∧ ps = (List.range (f + 1)).map fun d => ent Tf (k + d) (k + d) := by
  induction f with
  | zero =>
    intro k T prev ps hkf hT hp h
    obtain ⟨M, ps', h1, h2, rfl⟩ := elim_open hT (by omega) h
    cases h2
    exact ⟨T, rfl, fun _ _ => rfl, rfl⟩
  | succ f ih =>
    intro k T prev ps hkf hT hp h
    obtain ⟨M, ps', h1, h2, rfl⟩ := elim_open hT (by omega) h
    obtain ⟨T', g1, gM⟩ := pivI_rowsE hT (by omega) hp h1
    have lT := hT.len
    have eM : M = (T'.drop (k + 1)).map (·.drop (k + 1)) := by
      have l1 := (rowsE_spec h1).1
      rw [List.length_map, List.length_drop, lT] at l1
      have lT' := gM.rect.len
      refine List.ext_getElem (by rw [l1, List.length_map, List.length_drop, lT']) fun d hd1 hd2 => ?_
      have := gM.done d (by omega)
      rw [List.getD_eq_getElem?_getD (l := M), List.getElem?_eq_getElem hd1, Option.getD_some] at this
      rw [← this, List.getElem_map, List.getElem_drop]
      rw [List.getD_eq_getElem?_getD, List.getElem?_eq_getElem (by omega), Option.getD_some]
    have sk := gM.same k (.inl (by omega))
    rw [eM] at h2
    have hz : ((k + 1 == 0) : Bool) = false := by simp
    obtain ⟨Tf, i1, i2, i3⟩ := ih (k + 1) T' (ent T k k) ps' (by omega) gM.rect (fun _ => (ent_of_row sk).symm) (by rw [hz]; exact h2)
    refine ⟨Tf, ?_, fun r hr => ?_, ?_⟩
    · rw [iterO_shift]
      show (pivI n (k + 0) T).bind _ = _
      rw [Nat.add_zero, g1, Option.bind_some]
      have : (fun c => pivI n (k + (c + 1))) = fun c => pivI n (k + 1 + c) := by
        funext c
        rw [show k + (c + 1) = k + 1 + c by omega]
      rw [this]
      exact i1
    · rw [i2 r (by omega)]
      exact gM.same r (.inl (by omega))
    · rw [List.range_succ_eq_map, List.map_cons, List.map_map, i3]
      congr 1
      · rw [Nat.add_zero, ent_of_row (i2 k (by omega)), ent_of_row sk]
      · refine List.map_congr_left fun d _ => ?_
        show ent Tf (k + 1 + d) (k + 1 + d) = ent Tf (k + (d + 1)) (k + (d + 1))
        rw [show k + (d + 1) = k + 1 + d by omega]
theorem pivP_elim {n : Nat} {sq : List (List Int)} {ps : List Int} (hR : Rect n sq) (hn : 2 ≤ n) (h : elimE true 0 n (swap2 sq) = some ps) : pivP sq = some ps := by
  have hS := swap2_rect hR hn
  obtain ⟨f, rfl⟩ : ∃ f, n = f + 1 := ⟨n - 1, by omega⟩
  have e : ((swap2 sq).drop 0).map (·.drop 0) = swap2 sq := by simp
  obtain ⟨Tf, h1, _, h3⟩ := elim_piv f 0 (swap2 sq) 0 ps (by omega) hS (fun q => absurd rfl q) (by rw [e]; exact h)
  unfold pivP pivK
  rw [hR.len]
  simp only [Nat.zero_add] at h1 h3
  show Option.map _ (iterO (fun c => pivI (f + 1) c) (swap2 sq) f) = _
  rw [h1, Option.map_some, h3]
  rfl
end Mine

set_option maxHeartbeats 1000000
namespace Mine
noncomputable def eofs (st : WSt) (k : Nat) : WSt := (List.replicate k (0 : Int)).foldl wordStep st
theorem eofs_succ (st : WSt) (k : Nat) : eofs st (k + 1) = eofs (wordStep st 0) k := rfl
theorem eof_id {st : WSt} (h : st.pile.length = 1) : wordStep st 0 = st := by
  rw [wordStep0]
  obtain ⟨ws, pl⟩ := st
  obtain ⟨a, rfl⟩ := List.length_eq_one_iff.mp h
  rfl
theorem eofs_id {st : WSt} (h : st.pile.length = 1) (k : Nat) : eofs st k = st := by
  induction k with
  | zero => rfl
  | succ k ih => rw [eofs_succ, eof_id h, ih]
theorem eof_len {st : WSt} (h : 0 < st.pile.length) : (wordStep st 0).pile.length = max 1 (st.pile.length - 1) := by
  rw [wordStep0]
  show (st.pile.take 1 ++ (st.pile.drop 1).dropLast).length = _
  rw [List.length_append, List.length_take, List.length_dropLast, List.length_drop]
  omega
theorem eofs_stab (k : Nat) : ∀ {st : WSt}, 0 < st.pile.length → st.pile.length - 1 ≤ k → eofs st k = eofs st (st.pile.length - 1) := by
  induction k with
  | zero => intro st h hk; rw [Nat.le_zero.mp hk]
  | succ k ih =>
    intro st h hk
    by_cases h1 : st.pile.length = 1
    · rw [eofs_id h1, eofs_id h1]
    · obtain ⟨m, hm⟩ : ∃ m, st.pile.length = m + 2 := ⟨st.pile.length - 2, by omega⟩
      have hl : (wordStep st 0).pile.length = m + 1 := by rw [eof_len h, hm]; exact Nat.max_eq_right (Nat.le_add_left 1 m)
      rw [hm] at hk
      rw [eofs_succ, ih (hl ▸ Nat.succ_pos m) (hl ▸ Nat.le_of_succ_le_succ hk), hl, hm]
      rfl
theorem eofs_pos (k : Nat) : ∀ {st : WSt}, 0 < st.pile.length → 0 < (eofs st k).pile.length := by
  induction k with
  | zero => exact fun h => h
  | succ k ih => exact fun h => ih (by rw [eof_len h]; exact Nat.le_max_left 1 _)
theorem step_pos {st : WSt} (y : Int) (hy : y ≠ 0) (h : 0 < st.pile.length) : 0 < (wordStep st y).pile.length := by
  unfold wordStep
  rw [if_neg hy]
  split
  · exact h
  · show 0 < (st.pile ++ _).length
    rw [List.length_append]; omega
theorem cls_pos {st : WSt} (c : Cl) (h : 0 < st.pile.length) : 0 < (clsStep st c).pile.length :=
  step_pos _ (by split <;> decide) (eofs_pos c.1 h)
theorem cls_stab {st : WSt} {k : Nat} {b : Bool} (h : 0 < st.pile.length) (hk : st.pile.length ≤ k) : clsStep st (k, b) = clsStep st (st.pile.length - 1, b) := by
  have := eofs_stab k h (by omega)
  unfold eofs at this
  unfold clsStep
  dsimp only
  rw [this]
theorem explore_sound {N : Nat} (n : Nat) : ∀ {st : WSt} {w : List Int}, 0 < st.pile.length → explore N n st w = true → ∀ cs : List Cl, cs.length = n → (∀ c ∈ cs, c.1 < 3) → checkW N (cs.foldl clsStep st).words (dueP (w ++ cs.map wt)) = true := by
  induction n with
  | zero =>
    intro st w hp h cs hc _
    rw [List.eq_nil_of_length_eq_zero hc, List.map_nil, List.append_nil]
    exact h
  | succ n ih =>
    intro st w hp h cs hc h3
    obtain ⟨c, cs, rfl⟩ := List.exists_cons_of_length_pos (show 0 < cs.length by rw [hc]; exact Nat.succ_pos n)
    obtain ⟨k, b⟩ := c
    have hk : k < 3 := h3 _ (.head _)
    have key : ∀ k', k' < min 3 st.pile.length → checkW N (cs.foldl clsStep (clsStep st (k', b))).words (dueP (w ++ wt (k', b) :: cs.map wt)) = true := by
      intro k' hk'
      rw [explore, List.all_eq_true] at h
      have h1 := h k' (List.mem_range.mpr hk')
      rw [Bool.and_eq_true] at h1
      have e : ∀ x : Int, w ++ x :: cs.map wt = (w ++ [x]) ++ cs.map wt := fun x => by rw [List.append_assoc]; rfl
      rw [e]
      have hlen : cs.length = n := Nat.succ.inj hc
      cases b with
      | true => exact ih (cls_pos _ hp) h1.1 cs hlen fun c hc' => h3 c (.tail _ hc')
      | false => exact ih (cls_pos _ hp) h1.2 cs hlen fun c hc' => h3 c (.tail _ hc')
    rw [List.foldl_cons, List.map_cons]
    by_cases hq : k < st.pile.length
    · exact key k (by omega)
    · rw [cls_stab hp (by omega)]
      exact key (st.pile.length - 1) (by omega)
noncomputable def clsOf (d : Int) : Cl := (((drawX d).fmod 3).toNat, decide (((drawX d).fdiv 3).fmod 2 = 0))
theorem clsOf_lt (d : Int) : (clsOf d).1 < 3 := by
  have h1 : 0 ≤ (drawX d).fmod 3 := Int.fmod_nonneg_of_pos _ (by decide)
  have h2 : (drawX d).fmod 3 < 3 := Int.fmod_lt_of_pos _ (by decide)
  show ((drawX d).fmod 3).toNat < 3
  omega
theorem flat_rep (k : Nat) : (List.replicate k [(0 : Int)]).flatten = List.replicate k 0 := by
  induction k with
  | zero => rfl
  | succ k ih => rw [List.replicate_succ, List.flatten_cons, ih]; rfl
theorem step_low {st : WSt} {y : Int} (h0 : 0 < y) (h1 : y < 256) : wordStep st y = wordStep st 1 := by
  unfold wordStep
  rw [if_neg (by omega), if_pos h1, if_neg (by decide), if_pos (by decide)]
theorem step_high {st : WSt} {y : Int} (h1 : 256 ≤ y) : wordStep st y = wordStep st 256 := by
  unfold wordStep
  rw [if_neg (by omega), if_neg (by omega), if_neg (by decide), if_neg (by decide)]
structure DrawOk (ds : List Int) (R W : List Int) (st : WSt) : Prop where
  words : (ds.foldl drawStep (R, W)).1.foldl wordStep st = (ds.map clsOf).foldl clsStep (R.foldl wordStep st)
  wts : (ds.foldl drawStep (R, W)).2 = W ++ (ds.map clsOf).map wt
  nz : ((ds.foldl drawStep (R, W)).1.filter (· ≠ 0)).length = (R.filter (· ≠ 0)).length + ds.length
  len : (ds.foldl drawStep (R, W)).1.length ≤ R.length + 3 * ds.length
theorem draw_ok (ds : List Int) : ∀ (R W : List Int) (st : WSt), DrawOk ds R W st := by
  induction ds with
  | nil => exact fun R W st => ⟨rfl, (List.append_nil W).symm, rfl, Nat.le_refl _⟩
  | cons d ds ih =>
    intro R W st
    have hlt := clsOf_lt d
    have h5 : 0 ≤ ((drawX d).fdiv 6).fmod 255 := Int.fmod_nonneg_of_pos _ (by decide)
    have h6 : ((drawX d).fdiv 6).fmod 255 < 255 := Int.fmod_lt_of_pos _ (by decide)
    have h7 : 0 ≤ ((drawX d).fdiv 6).fmod 1000 := Int.fmod_nonneg_of_pos _ (by decide)
    obtain ⟨y, hy, hy0, hst⟩ : ∃ y, drawStep (R, W) d = (R ++ List.replicate (clsOf d).1 0 ++ [y], W ++ [wt (clsOf d)]) ∧ y ≠ 0 ∧ ∀ st, wordStep st y = wordStep st (if (clsOf d).2 = true then 1 else 256) := by
      unfold drawStep
      rw [flat_rep]
      by_cases hc : ((drawX d).fdiv 3).fmod 2 = 0
      · refine ⟨1 + ((drawX d).fdiv 6).fmod 255, ?_, by omega, fun st => ?_⟩
        · have : wt (clsOf d) = 1 := by simp [wt, clsOf, hc]
          rw [if_pos hc, if_pos hc, this]
          rfl
        · have : (clsOf d).2 = true := by simp [clsOf, hc]
          rw [if_pos this]
          exact step_low (by omega) (by omega)
      · refine ⟨256 + ((drawX d).fdiv 6).fmod 1000, ?_, by omega, fun st => ?_⟩
        · have : wt (clsOf d) = 2 := by simp [wt, clsOf, hc]
          rw [if_neg hc, if_neg hc, this]
          rfl
        · have : ¬ (clsOf d).2 = true := by simp [clsOf, hc]
          rw [if_neg this]
          exact step_high (by omega)
    have ih := ih (R ++ List.replicate (clsOf d).1 0 ++ [y]) (W ++ [wt (clsOf d)]) st
    refine ⟨?_, ?_, ?_, ?_⟩
    · rw [List.foldl_cons, hy, List.map_cons, List.foldl_cons]
      have := ih.words
      rw [this, List.foldl_append, List.foldl_append, List.foldl_cons, List.foldl_nil, hst]
      rfl
    · have := ih.wts
      rw [List.foldl_cons, hy, this, List.append_assoc, List.map_cons, List.map_cons]
      rfl
    · have := ih.nz
      rw [List.foldl_cons, hy, this, List.filter_append, List.filter_append, List.length_append, List.length_append, List.length_cons]
      have e1 : ((List.replicate (clsOf d).1 (0 : Int)).filter (· ≠ 0)) = [] := by
        rw [List.filter_eq_nil_iff]
        intro x hx
        rw [List.eq_of_mem_replicate hx]
        decide
      have e2 : ([y].filter (· ≠ 0)).length = 1 := by simp [hy0]
      rw [e1, e2, List.length_nil]
      omega
    · have := ih.len
      rw [List.foldl_cons, hy]
      simp only [List.length_append, List.length_replicate, List.length_cons, List.length_nil] at this ⊢
      omega
theorem dpos_symm (x : List Nat) : ∀ (y : List Nat), dpos x y = dpos y x := by
  induction x with
  | nil => intro y; cases y <;> rfl
  | cons a x ih =>
    intro y
    cases y with
    | nil => rfl
    | cons b y => rw [dpos, dpos, cst_symm, ih y]
noncomputable def distW (ws : List (List Nat)) (i j : Nat) : Int := dpos (ws.getD i []) (ws.getD j [])
theorem getD_at {ws : List (List Nat)} {i : Nat} (h : i < ws.length) : ws.getD i [] = ws[i] := by
  rw [List.getD_eq_getElem?_getD, List.getElem?_eq_getElem h]
  rfl
theorem distM_eq (ws : List (List Nat)) : sqM (distW ws) ws.length = distM ws := by
  unfold sqM distM sqRow
  refine List.ext_getElem (by simp) fun i h1 h2 => ?_
  have hi : i < ws.length := by simpa using h1
  rw [List.getElem_map, List.getElem_map, List.getElem_range]
  refine List.ext_getElem (by simp) fun j h3 h4 => ?_
  have hj : j < ws.length := by simpa using h3
  rw [List.getElem_map, List.getElem_map, List.getElem_range]
  unfold lowAt distW
  rcases Nat.lt_trichotomy i j with h | h | h
  · rw [Nat.max_eq_right (by omega), Nat.min_eq_left (by omega), if_pos h, dpos_symm, getD_at hi, getD_at hj]
  · subst h
    rw [Nat.max_self, Nat.min_self, if_neg (by omega), dpos_self]
  · rw [Nat.max_eq_left (by omega), Nat.min_eq_right (by omega), if_pos h, getD_at hi, getD_at hj]
theorem good_of {x : List Nat} (h : goodB x = true) : Good x := by
  unfold goodB at h
  rw [Bool.and_eq_true, beq_iff_eq, List.all_eq_true] at h
  refine ⟨h.1, fun j hj => ?_⟩
  have := h.2 j (List.mem_range.mpr hj)
  simp only [Bool.or_eq_true, beq_iff_eq] at this
  omega
theorem check_all {cs : List Cl} (h2 : 2 ≤ cs.length) (h4 : cs.length ≤ 4) (h3 : ∀ c ∈ cs, c.1 < 3) : checkW (cs.length + 2) (cs.foldl clsStep st0).words (dueP (2 :: cs.map wt)) = true := by
  have hp : 0 < st0.pile.length := by decide
  have hl : cs.length = 2 ∨ cs.length = 3 ∨ cs.length = 4 := by omega
  rcases hl with h | h | h
  · rw [h]; exact explore_sound 2 hp check2 cs h h3
  · rw [h]; exact explore_sound 3 hp check3 cs h h3
  · rw [h]; exact explore_sound 4 hp check4 cs h h3
noncomputable abbrev drawN (ds : List Int) : List Int × List Int := ds.foldl drawStep ([300], [2])
noncomputable abbrev wordsN (ds : List Int) : List (List Nat) := ((drawN ds).1.foldl wordStep word0).words
structure Final (ds : List Int) (dst : Nat → Nat → Int) : Prop where
  len : (wordsN ds).length = ds.length + 2
  five : ∀ (i : Nat) (hi : i < (wordsN ds).length), ((wordsN ds)[i]'hi).length = 5
  lev : ∀ (i j : Nat) (hi : i < (wordsN ds).length) (hj : j < i), levP ((wordsN ds)[i]'hi) ((wordsN ds)[j]'(Nat.lt_trans hj hi)) 10 = some (dst i j)
  piv : pivP (sqM dst (wordsN ds).length) = some (dueP (drawN ds).2)
  nz : ((drawN ds).1.filter (· ≠ 0)).length ≤ 5
  l40 : (drawN ds).1.length ≤ 40
  w10 : (drawN ds).2.length ≤ 10
  w1 : 1 ≤ (drawN ds).2.length
  w02 : ∀ x ∈ (drawN ds).2, 0 ≤ x ∧ x ≤ 2
theorem sqM_rect (dst : Nat → Nat → Int) (n : Nat) : Rect n (sqM dst n) := by
  refine ⟨by simp [sqM], fun r hr => ?_⟩
  obtain ⟨i, _, rfl⟩ := List.mem_map.mp hr
  simp [sqRow]
theorem final {ds : List Int} (h2 : 2 ≤ ds.length) (h4 : ds.length ≤ 4) : ∃ dst, Final ds dst := by
  have hD := draw_ok ds [300] [2] word0
  have hw : wordsN ds = ((ds.map clsOf).foldl clsStep st0).words := congrArg WSt.words hD.words
  have hwt : (drawN ds).2 = 2 :: (ds.map clsOf).map wt := hD.wts
  have hc := check_all (cs := ds.map clsOf) (by rw [List.length_map]; exact h2) (by rw [List.length_map]; exact h4) (fun c hc => by
    obtain ⟨d, _, rfl⟩ := List.mem_map.mp hc
    exact clsOf_lt d)
  rw [← hw, ← hwt, List.length_map] at hc
  unfold checkW at hc
  rw [Bool.and_eq_true, Bool.and_eq_true, beq_iff_eq, beq_iff_eq, List.all_eq_true] at hc
  obtain ⟨⟨c1, c2⟩, c3⟩ := hc
  have hg : ∀ (i : Nat) (hi : i < (wordsN ds).length), Good ((wordsN ds)[i]'hi) := fun i hi => good_of (c2 _ (List.getElem_mem hi))
  refine ⟨distW (wordsN ds), c1, fun i hi => (hg i hi).len, fun i j hi hj => ?_, ?_, ?_, ?_, ?_, ?_, ?_⟩
  · rw [lev_good (hg i hi) (hg j (Nat.lt_trans hj hi))]
    unfold distW
    rw [getD_at hi, getD_at (Nat.lt_trans hj hi)]
  · refine pivP_elim (n := ds.length + 2) (by rw [c1]; exact sqM_rect _ _) (by omega) ?_
    rw [distM_eq]
    exact c3
  · have := hD.nz
    have e : ([300] : List Int).filter (· ≠ 0) = [300] := by decide
    rw [e] at this
    show ((ds.foldl drawStep ([300], [2])).1.filter (· ≠ 0)).length ≤ 5
    rw [this]
    simp only [List.length_cons, List.length_nil]
    omega
  · have := hD.len
    simp only [List.length_cons, List.length_nil] at this
    show (ds.foldl drawStep ([300], [2])).1.length ≤ 40
    omega
  · rw [hwt]
    simp only [List.length_cons, List.length_map]
    omega
  · rw [hwt]
    simp only [List.length_cons]
    omega
  · intro x hx
    rw [hwt] at hx
    rcases List.mem_cons.mp hx with rfl | hx
    · decide
    · obtain ⟨c, _, rfl⟩ := List.mem_map.mp hx
      unfold wt
      split <;> decide
end Mine

open PySem PySem.W PyProof.Rows PySem.Spec
set_option maxHeartbeats 4000000
namespace Mine
local macro_rules | `(tactic| walk_at $s:str) => do if ["call ref", "call builtin:len", "compareOp Eq ref ref", "binaryOp Add ref ref", "subscriptTail Name Slice ref ref", "subscriptTail List Slice ref ref"].contains s.getString then `(tactic| refine Stop.mk ?_) else Lean.Macro.throwUnsupported
theorem law_holds : PySem.Challenge.rw_re0095_01.Holds := hd (by
  w_strict k_go0
  all_goals try k_fold
  (repeat' (first | (k_unfold; (try dsimp only)) | (walk1 <;> (try dsimp only)) | (dsimp only; walk1) | ((with_reducible rename Post _ _ => hP'); (with_reducible refine Post.of hP' ?_))))
  refine Stop.of ?_
  rename_i w6 s0 s1 mg mb G Y fa o pm cd doc kV ho hcd hg X9 V9 T9 B9 TE TW script hs hlay hL1 hr1 hl2 w4 w3 sr svs w0 hL ra w1 r0 hI hr hc1 hc2 hD h1 X' T' K' Fx0 cH1 Nx0 l0
  have hlen : svs.length ≤ 63 := by rw [hI.length]; omega
  clear G Y ho hcd hT8 X9 V9 T9 B9 TE TW hT9 hs hlay hL1 hr1 hl2 hL ra w1 r0 hr hc1 hc2 hD
  rename Fr _ _ _ _ => Fx
  rename News _ _ _ _ => Nx
  have hsz : svs.toArray.size ≤ sizeLine := by rw [List.size_toArray, sizeLine_eq]; omega
  k_dflt (refine' kmk_slice_ints (s := ⟨_, _, _, _, _⟩) ?zF ?zN ?zl ?zp ?zq ?zi ?zm ?zc ?_ ?zs ?zt ?zz; (case zF => exact Fx); (case zN => exact Nx); (case zl => exact Fr.lst Fx lifted); (case zp => exact IsPart.none); (case zq => exact IsPart.int _ _); (case zi => exact hI); (case zm => exact kmk_upto hI (by decide)); (case zc => exact rfl); (case zs => with_unfolding_all rfl); (case zt => kmk_pure); (case zz => exact hsz))
  intro D₁ v₁ h₂ F₂ N₂ lD₁ hI₁ _ _
  clear Fx Nx
  (repeat' (first | (k_unfold; (try dsimp only)) | (walk1 <;> (try dsimp only)) | (dsimp only; walk1) | ((with_reducible rename Post _ _ => hP'); (with_reducible refine Post.of hP' ?_))))
  refine Stop.of ?_
  rename Fr _ _ _ _ => Fx
  rename News _ _ _ _ => Nx
  rename_i Z3 _ _ _ lZ
  k_dflt (refine' kmk_slice_ints (s := ⟨_, _, _, _, _⟩) ?zF ?zN ?zl ?zp ?zq ?zi ?zm ?zc ?_ ?zs ?zt ?zz; (case zF => exact Fx); (case zN => exact Nx); (case zl => exact Fr.lst Fx lifted); (case zp => exact IsPart.none); (case zq => exact IsPart.int _ _); (case zi => exact hI); (case zm => exact kmk_upto hI (by decide)); (case zc => exact rfl); (case zs => with_unfolding_all rfl); (case zt => kmk_pure); (case zz => exact hsz))
  intro D₂ v₂ h₃ F₃ N₃ lD₂ hI₂ _ _
  clear Fx Nx
  (repeat' (first | (k_unfold; (try dsimp only)) | (walk1 <;> (try dsimp only)) | (dsimp only; walk1) | ((with_reducible rename Post _ _ => hP'); (with_reducible refine Post.of hP' ?_))))
  refine Stop.of ?_
  rename Fr _ _ _ _ => Fx
  rename News _ _ _ _ => Nx
  have hl4 : Stop (v₂.length ≤ 4) := by
    have : v₂.length ≤ 4 := by rw [hI₂.length, List.length_take]; exact Nat.min_le_left _ _
    exact this
  refine kun_lenL (k := (v₂.length : Int)) (News.isList Nx (.head _)) (by rw [List.size_toArray]) (by have : v₂.length ≤ 4 := hl4; omega) ?_
  walk1
  walk1
  rename Fr _ _ _ _ => Fx
  rename News _ _ _ _ => Nx
  refine kba_turn (value' := PySem.Expr.Name (PySem.Str.ofString "_") ⟨0, 0, 0, 0⟩) (fun _ => rfl) ?_
  have hI37 : ∀ ta tb, IntsAre [.int 3 ta, .int 7 tb] [3, 7] := fun _ _ => .cons _ _ (.cons _ _ .nil)
  have hk0 : (0 : Int) ≤ (v₂.length : Int) := by omega
  k_dflt (refine' kmk_slice_ints (s := ⟨_, _, _, _, _⟩) ?zF ?zN ?zl ?zp ?zq ?zi ?zm ?zc ?_ ?zs ?zt ?zz; (case zF => exact Fx); (case zN => exact Nx); (case zl => exact News.isList Nx (.tail _ (.head _))); (case zp => exact IsPart.int _ _); (case zq => exact IsPart.none); (case zi => exact hI37 _ _); (case zm => exact kmk_from (hI37 _ _) hk0); (case zc => exact rfl); (case zs => with_unfolding_all rfl); (case zt => kmk_pure); (case zz => (rw [sizeLine_eq]; exact Nat.le_of_ble_eq_true rfl)))
  intro D₃ v₃ h₄ F₄ N₄ lD₃ hI₃ _ _
  clear Fx Nx
  have hl2 : v₃.length ≤ 2 := by rw [hI₃.length, List.length_drop]; exact Nat.sub_le _ _
  (repeat' (first | (k_unfold; (try dsimp only)) | (walk1 <;> (try dsimp only)) | (dsimp only; walk1) | ((with_reducible rename Post _ _ => hP'); (with_reducible refine Post.of hP' ?_))))
  refine Stop.of ?_
  rename Fr _ _ _ _ => Fx
  rename News _ _ _ _ => Nx
  refine add_arrays (its := v₁.toArray) (its2 := v₃.toArray) Fx Nx (News.isList Nx (.tail _ (.tail _ (.tail _ (.head _))))) (News.isList Nx (.head _)) ?_ (by rw [List.size_toArray, List.size_toArray, sizeLine_eq]; have : v₂.length ≤ 4 := hl4; have := hI₁.length; have := hI₂.length; omega)
  intro h₅ F₅ N₅
  have hIA : IntsAre (v₁ ++ v₃) (script.take 4 ++ [3, 7].drop v₂.length) := hI₁.append hI₃
  have N₆ := news_sub (b := (h₄.objs.size, listOf (List.toArray (v₁ ++ v₃)) 0) :: [(37, tabObj #[]), (30, tabObj #[])]) N₅ (by
    intro p hp
    simp only [List.mem_cons, List.not_mem_nil, or_false] at hp ⊢
    rcases hp with h | h | h
    · exact .inl h
    · simp [h]
    · simp [h])
  clear Fx Nx N₅
  (repeat' (first | (k_unfold; (try dsimp only)) | (walk1 <;> (try dsimp only)) | (dsimp only; walk1) | ((with_reducible rename Post _ _ => hP'); (with_reducible refine Post.of hP' ?_))))
  refine Stop.of ?_
  rename Fr _ _ _ _ => Fx
  rename News _ _ _ _ => Nx
  have hL2 : 2 ≤ (script.take 4 ++ [3, 7].drop v₂.length).length := by
    have e := hI₂.length
    rw [List.length_append, List.length_drop, e]
    simp only [List.length_cons, List.length_nil]
    have : (script.take (Int.toNat 4)).length = (script.take 4).length := rfl
    omega
  have hL4 : (script.take 4 ++ [3, 7].drop v₂.length).length ≤ 4 := by
    have e := hI₂.length
    have h4 : v₂.length ≤ 4 := hl4
    rw [List.length_append, List.length_drop, e]
    simp only [List.length_cons, List.length_nil]
    have : (script.take (Int.toNat 4)).length = (script.take 4).length := rfl
    omega
  obtain ⟨dst, hF⟩ := final hL2 hL4
  generalize script.take 4 ++ [3, 7].drop v₂.length = ds at *
  clear hI₁ hI₂ hI₃ hI lD₁ lD₂ lD₃ lZ
  k_dflt (refine drawn_call K' Fx X' Nx T' rfl hIA (by omega) (by decide) (by decide) ?_)
  intro rr R W rvs wvs er ew h₆ tk₆ hIr hIw F₆ N₆ lR
  clear Fx Nx
  have lR37 := lR (37, tabObj #[]) (.head _)
  (repeat' (first | (k_unfold; (try dsimp only)) | (walk1 <;> (try dsimp only)) | (dsimp only; walk1) | ((with_reducible rename Post _ _ => hP'); (with_reducible refine Post.of hP' ?_))))
  refine Stop.of ?_
  rename Fr _ _ _ _ => Fx
  rename News _ _ _ _ => Nx
  have N₇ := news_sub (b := (R, listOf rvs.toArray er) :: [(rr, pairOf (.ref R) (.ref W)), (W, listOf wvs.toArray ew), (37, tabObj #[]), (30, tabObj #[])]) Nx (by
    intro p hp
    simp only [List.mem_cons, List.not_mem_nil, or_false] at hp ⊢
    rcases hp with h | h | h | h | h <;> simp [h])
  k_dflt (refine words_call K' Fx X' N₇ T' rfl hIr hF.nz hF.l40 (by decide) (by decide) ?_)
  intro W2 wvs2 ew2 h₇ tk₇ hSw F₇ N₈ lW2
  clear Fx Nx N₇
  (repeat' (first | (k_unfold; (try dsimp only)) | (walk1 <;> (try dsimp only)) | (dsimp only; walk1) | ((with_reducible rename Post _ _ => hP'); (with_reducible refine Post.of hP' ?_))))
  refine Stop.of ?_
  rename Fr _ _ _ _ => Fx
  rename News _ _ _ _ => Nx
  have hlw := hF.len
  k_dflt (refine square_call (dst := dst) K' Fx X' Nx T' rfl hSw (by show (wordsN ds).length ≤ 6; omega) (fun i hi => by rw [S_len, hF.five i hi]; decide) hF.lev (by decide) (by decide) ?_)
  intro SQ refs led eSQ h₈ tk₈ hRw F₈ N₉
  clear Fx Nx
  (repeat' (first | (k_unfold; (try dsimp only)) | (walk1 <;> (try dsimp only)) | (dsimp only; walk1) | ((with_reducible rename Post _ _ => hP'); (with_reducible refine Post.of hP' ?_))))
  refine Stop.of ?_
  rename Fr _ _ _ _ => Fx
  rename News _ _ _ _ => Nx
  have N₈ := news_sub (b := (SQ, listOf refs.toArray eSQ) :: (led ++ ([(30, tabObj #[])] ++ ([(37, tabObj #[])] ++ [(W, listOf wvs.toArray ew), (rr, pairOf (.ref R) (.ref W))])))) Nx (by
    intro p hp
    simp only [List.mem_cons, List.mem_append, List.not_mem_nil, or_false] at hp ⊢
    rcases hp with h | h | h | h | h | h <;> simp [h])
  k_dflt (refine pivots_call (n := (wordsN ds).length) K' Fx X' .empty .empty N₈ T' rfl codeHd cH1 ?_ hRw (sqM_rect _ _) (by omega) (by omega) hF.piv (by decide) (by decide) ?_)
  · intro p hp
    simp only [List.mem_cons, List.not_mem_nil, or_false] at hp
    obtain ⟨q1, q2, q3⟩ := lR37
    rcases hp with rfl | rfl
    · have : @LT.lt Nat _ 37 W := q2
      exact ⟨by show @Ne Nat W 30; omega, by show @Ne Nat W 37; omega⟩
    · have : @LT.lt Nat _ 37 rr := q3
      exact ⟨by show @Ne Nat rr 30; omega, by show @Ne Nat rr 37; omega⟩
  intro PP PD PO pvs ePD ePO p30 p37 h₉ tk₉ hIp F₉ N₉
  clear Fx Nx N₈
  (repeat' (first | (k_unfold; (try dsimp only)) | (walk1 <;> (try dsimp only)) | (dsimp only; walk1) | ((with_reducible rename Post _ _ => hP'); (with_reducible refine Post.of hP' ?_))))
  refine Stop.of ?_
  rename Fr _ _ _ _ => Fx
  rename News _ _ _ _ => Nx
  have N₈ := news_sub (b := (W, listOf wvs.toArray ew) :: [(PP, pairOf (.ref PD) (.ref PO)), (PD, listOf pvs.toArray ePD), (PO, listOf #[] ePO), (37, tabObj p37), (30, tabObj p30)]) Nx (by
    intro p hp
    simp only [List.mem_cons, List.not_mem_nil, or_false] at hp ⊢
    rcases hp with h | h | h | h | h | h <;> simp [h])
  k_dflt (refine due_call K' Fx X' N₈ T' rfl hIw hF.w10 hF.w1 hF.w02 (by decide) (by decide) ?_)
  intro DD dvs eDD h₁₀ tk₁₀ hId F₁₀ N₁₀ lDD
  clear Fx Nx N₈
  (repeat' (first | (k_unfold; (try dsimp only)) | (walk1 <;> (try dsimp only)) | (dsimp only; walk1) | ((with_reducible rename Post _ _ => hP'); (with_reducible refine Post.of hP' ?_))))
  refine Stop.of ?_
  rename Fr _ _ _ _ => Fx
  rename News _ _ _ _ => Nx
  rename_i Z5 _ lZ5 TT _ lTT
  have hId' : IntsAre dvs (dueP (drawN ds).2) := hId
  clear hId
  generalize dueP (drawN ds).2 = dd at *
  clear hF
  have ra : Reads _ (.ref PP) (.tuple [.list (dd.map .int), .list []]) _ := reads_tuple_at (Nx _ (.tail _ (.tail _ (.tail _ (.tail _ (.head _)))))).1 rfl rfl (ReadsAll.cons (reads_newData (News.isList Nx (.tail _ (.tail _ (.tail _ (.tail _ (.tail _ (.head _))))))) (ke_carried hIp)) (ReadsAll.cons (reads_newData (News.isList Nx (.tail _ (.tail _ (.tail _ (.tail _ (.tail _ (.tail _ (.head _)))))))) CarriedAll.nil) ReadsAll.nil))
  have rb : Reads _ (.ref TT) (.tuple [.list (dd.map .int), .list []]) _ := reads_tuple_at (Nx _ (.head _)).1 rfl rfl (ReadsAll.cons (reads_newData (News.isList Nx (.tail _ (.tail _ (.head _)))) (ke_carried hId')) (ReadsAll.cons (reads_newData (News.isList Nx (.tail _ (.head _))) CarriedAll.nil) ReadsAll.nil))
  have hsh : SeqAt.shaped (.tuple [.list (dd.map .int), .list []]) = true := by simp [SeqAt.shaped, PyData.canLay0, PyData.canLayAll0, PyData.depth, PyData.depthAll, ke_canLayAll0, ke_depthAll]
  refine eq_dataH ra rb hsh hsh (by ke_room) ?_
  have heq : PyData.eqv (.tuple [.list (dd.map .int), .list []]) (.tuple [.list (dd.map .int), .list []]) = true := by simp [PyData.eqv, PyData.eqvAll, ked_eqvAll]
  rw [heq]
  clear ra rb hsh heq
  refine ⟨?_, ⟨_, (Nx _ (.tail _ (.tail _ (.tail _ (.tail _ (.tail _ (.tail _ (.tail _ (.head _)))))))) ).1⟩, ⟨_, (Nx _ (.tail _ (.tail _ (.tail _ (.tail _ (.tail _ (.tail _ (.tail _ (.tail _ (.head _))))))))) ).1⟩, trivial⟩
  refine goodW_bool Fx hg (fun _ => rfl) ?_
  with_unfolding_all rfl)
end Mine

end
end

theorem PySem.Challenge.cw_re0095_01_holds : PySem.Challenge.rw_re0095_01.Holds :=
  Mine.law_holds
