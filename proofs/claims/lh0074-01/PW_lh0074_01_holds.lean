import PyProof.Rows.All
import Wide.All
import OpenK.AllK
import Wide.FinOn
import PyProof.Rows.SeqRange
import KE.KBytesWalk
import PySem.Challenge.RW_lh0074_01
open PySem PySem.W PyProof.Rows
set_option Elab.async false

namespace Mine
set_option maxRecDepth 100000 in
set_option maxHeartbeats 8000000 in
open_top hd for PySem.Challenge.rw_lh0074_01
end Mine

open PySem.Calls
set_option maxRecDepth 100000

namespace Mine

noncomputable abbrev PG : Program := PySem.Challenge.rw_lh0074_01.row.prog
noncomputable abbrev LO : List Str := looseW Mine.hd.view_39 [Str.ofString "xrange", Str.ofString "_uint_le_struct", Str.ofString "pack_uint_le", Str.ofString "unpack_uint_le", Str.ofString "NumberEncoding", Str.ofString "Simple16"]
noncomputable abbrev TP (me : ExcName → Option Value) (mg mb : Str → Option Value) (h : Heap) : Prop := Top Mine.hd.view_39 LO me mg mb h

/-- the ambient of a contract, written out -/
abbrev amb (fr : Option (List Env)) (gd : Option (List Code)) (d u : Nat) : Around := ⟨none, d, fr, gd, u⟩

theorem wpAny_amb {α : Type} {M : Model} {A : Around} {t : Sem α} {Q : α → Shared → Prop} {E : Value → Shared → Prop} {s : Shared} {d u : Nat}
    (hh : A.handled = none) (hd : A.depth ≤ d) (hu : A.units ≤ u) (h : wpAny M (amb A.frames A.guards d u) t Q E s) : wpAny M A t Q E s :=
  fun Γ p hΓ => h Γ p ⟨hΓ.1.trans hh, Nat.le_trans hΓ.2.1 hd, hΓ.2.2.1, hΓ.2.2.2.1, Nat.le_trans hΓ.2.2.2.2 hu⟩

section
variable {prog : Program} {w : World} {A : Around} {s : Shared} {K : Frag} {R : Result → Shared → Prop} {name qual : Str} {params : Arguments} {body : List Stmt} {scope : Scope} {dV kV doc pm cdv ct oc : Value} {an od : Option Addr} {osl : Array (Option Value)} {f : Addr} {args : Args} {binds : List (Str × Value)}
/-- entering a def of the text's: the base is the heap at the call -/
theorem enter (X : K.In s.heap) (hlim : s.heap.NoLimit) (hroom : A.depth < recursionLimit)
    (ho : K.lookup f = some ⟨oc, od, .func (fnOf name qual params body scope dV kV doc pm an cdv ct), osl⟩) (hcd : codeIn K cdv qual = true)
    (hbind : BindsTo s (fnOf name qual params body scope dV kV doc pm an cdv ct) args binds) (hloc : ∀ y ∈ binds, scope.names.lookup y.1 = some .local)
    (h : ∀ L h₁, Fr s.heap L h₁ (fun y => binds.reverse.lookup y) → News s.heap L h₁ [] →
      wpAny (model prog w) (A.deeper (envOf qual scope L f cdv)) (execs body (envOf qual scope L f cdv))
        (fun fl s' => R (.ok (.ret (match fl with | .ret v => v | _ => .none))) s')
        (fun e s' => wpAny (model prog w) (A.deeper (envOf qual scope L f cdv)) (leaving (envOf qual scope L f cdv) e) (fun _ s'' => R (.error e) s'') (fun e' s'' => R (.error e') s'') s')
        { s with heap := h₁, toks := s.toks + binds.length })
    (hco : scope.isCoroutine = false) (hgen : scope.isGenerator = false) (hk : scope.kind = .function)
    (hcell : ∀ x ∈ scope.names, x.2 ≠ .cell) : codeAny (model prog w) A (.call (.ref f) args) R s := by
  refine codeAny_call_def (fd := fnOf name qual params body scope dV kV doc pm an cdv ct) (body := body) (binds := binds) hroom (X _ _ ho) rfl hlim (codeRec_of X hcd) rfl hbind hcell hloc (fun h₁ hns hk₁ => ?_) hco hgen hk
  exact h s.heap.objs.size h₁ ⟨hns, hk₁, Nat.le_refl _⟩ News.nil
end

end Mine
namespace Mine
theorem fr_know {h₀ h : Heap} {L : Addr} {m : Str → Option Value} (F : Fr h₀ L h m) (x : Str) (v : Value) (e : m x = some v) : Fr h₀ L h (fun y => if y = x then some v else m y) := by
  have : (fun y => if y = x then some v else m y) = m := by
    funext y
    split
    · rename_i q; rw [q, e]
    · rfl
  rw [this]; exact F
end Mine

namespace Mine
section
variable {prog : Program} {w : World} {A : Around} {s : Shared} {K : Frag} {R : Result → Shared → Prop} {name qual : Str} {params : Arguments} {body : List Stmt} {scope : Scope} {dV kV doc pm cdv ct oc : Value} {an od : Option Addr} {osl : Array (Option Value)} {f : Addr} {args : Args} {binds : List (Str × Value)}
/-- entering over a smaller base: what the call was handed may stand on the ledger -/
theorem enterG {g : Heap} {news : List (Addr × Obj)} (X : K.In g) (hg : g.StaysIn s.heap) (hsz : g.objs.size ≤ s.heap.objs.size) (hN : ∀ p ∈ news, s.heap.get? p.1 = some p.2 ∧ g.get? p.1 = none)
    (hlim : g.NoLimit) (hroom : A.depth < recursionLimit)
    (ho : K.lookup f = some ⟨oc, od, .func (fnOf name qual params body scope dV kV doc pm an cdv ct), osl⟩) (hcd : codeIn K cdv qual = true)
    (hbind : BindsTo s (fnOf name qual params body scope dV kV doc pm an cdv ct) args binds) (hloc : ∀ y ∈ binds, scope.names.lookup y.1 = some .local)
    (h : ∀ L h₁, Fr g L h₁ (fun y => binds.reverse.lookup y) → News g L h₁ news → (∀ p ∈ news, p.1 < L) → s.heap.StaysIn h₁ → s.heap.objs.size ≤ L →
      wpAny (model prog w) (A.deeper (envOf qual scope L f cdv)) (execs body (envOf qual scope L f cdv))
        (fun fl s' => R (.ok (.ret (match fl with | .ret v => v | _ => .none))) s')
        (fun e s' => wpAny (model prog w) (A.deeper (envOf qual scope L f cdv)) (leaving (envOf qual scope L f cdv) e) (fun _ s'' => R (.error e) s'') (fun e' s'' => R (.error e') s'') s')
        { s with heap := h₁, toks := s.toks + binds.length })
    (hco : scope.isCoroutine = false) (hgen : scope.isGenerator = false) (hk : scope.kind = .function)
    (hcell : ∀ x ∈ scope.names, x.2 ≠ .cell) : codeAny (model prog w) A (.call (.ref f) args) R s := by
  refine codeAny_call_def (fd := fnOf name qual params body scope dV kV doc pm an cdv ct) (body := body) (binds := binds) hroom (hg _ _ (X _ _ ho)) rfl (hlim.keeps hg) ((codeRec_of X hcd).keeps hg) rfl hbind hcell hloc (fun h₁ hns hk₁ => ?_) hco hgen hk
  exact h s.heap.objs.size h₁ ⟨hns, fun b o e => hk₁ b o (hg b o e), hsz⟩ (fun p hp => ⟨hk₁ _ _ (hN p hp).1, Nat.ne_of_lt (Heap.lt_size (hN p hp).1), (hN p hp).2⟩) (fun p hp => Heap.lt_size (hN p hp).1) hk₁ (Nat.le_refl _)

theorem enterC {g : Heap} {news : List (Addr × Obj)} (X : K.In g) (hg : g.StaysIn s.heap) (hsz : g.objs.size ≤ s.heap.objs.size) (hN : ∀ p ∈ news, s.heap.get? p.1 = some p.2 ∧ g.get? p.1 = none)
    (hlim : g.NoLimit) (hroom : A.depth < recursionLimit)
    (ho : K.lookup f = some ⟨oc, od, .func (fnOf name qual params body scope dV kV doc pm an cdv ct), osl⟩) (hcd : codeIn K cdv qual = true)
    (hbind : BindsTo s (fnOf name qual params body scope dV kV doc pm an cdv ct) args binds) (hkind : (binds.all fun y => scope.names.lookup y.1 == some .local || scope.names.lookup y.1 == some .cell) = true)
    (hnd : ((cellsFrom 0 scope.names []).map (·.1)).Nodup)
    (h : ∀ L h₁ tk cells, Fr g L h₁ (bindL (envOfC qual scope L f cdv).kindOf binds fun _ => none) → News g L h₁ (cells ++ news) →
      CellsAre (bindC (envOfC qual scope L f cdv).kindOf binds fun _ => none) (cellsFrom (L + 1) scope.names []) cells → (∀ p ∈ news, p.1 < L) → s.heap.StaysIn h₁ → s.heap.objs.size ≤ L →
      wpAny (model prog w) (A.deeper (envOfC qual scope L f cdv)) (execs body (envOfC qual scope L f cdv))
        (fun fl s' => R (.ok (.ret (match fl with | .ret v => v | _ => .none))) s')
        (fun e s' => wpAny (model prog w) (A.deeper (envOfC qual scope L f cdv)) (leaving (envOfC qual scope L f cdv) e) (fun _ s'' => R (.error e) s'') (fun e' s'' => R (.error e') s'') s')
        { s with heap := h₁, toks := tk })
    (hco : scope.isCoroutine = false) (hgen : scope.isGenerator = false) (hk : scope.kind = .function) : codeAny (model prog w) A (.call (.ref f) args) R s := by
  refine codeAny_call_function (fd := fnOf name qual params body scope dV kV doc pm an cdv ct) hroom (hg _ _ (X _ _ ho)) rfl hco hgen rfl ((codeRec_of X hcd).keeps hg) (hbind _ _ _ _ ?_)
  refine wpAny_newFunctionEnv_cells hk (kindsX hkind _) fun env' he s' x => ?_
  subst he
  refine ⟨(hlim.keeps hg).keeps x.toInCall.keep, codeAny_func ?_⟩
  obtain ⟨h₁, tk, rfl, _⟩ := x.done
  have hk₁ := x.toInCall.keep
  obtain ⟨cells, NC, Y⟩ := Cl.news (h₀ := s.heap) (Nat.le_refl _) fun n c hm => ⟨x.cell n c (lookup_of_mem_nodup (cellsFrom_names scope.names 0 (s.heap.objs.size + 1) [] [] rfl ▸ hnd) hm), x.above n c hm⟩
  refine wpAny_mono (h s.heap.objs.size h₁ tk cells ⟨x.toInCall.ns, fun b o e => hk₁ b o (hg b o e), hsz⟩ (fun p hp => ?_) Y (fun p hp => Heap.lt_size (hN p hp).1) hk₁ (Nat.le_refl _)) (fun fl s' hl => hl) fun _ _ y => y
  rcases List.mem_append.mp hp with hp | hp
  · refine ⟨(NC p hp).1, (NC p hp).2.1, ?_⟩
    cases q : g.get? p.1 with
    | none => rfl
    | some o => have := hg _ _ q; rw [(NC p hp).2.2] at this; cases this
  · exact ⟨hk₁ _ _ (hN p hp).1, Nat.ne_of_lt (Heap.lt_size (hN p hp).1), (hN p hp).2⟩
end
end Mine
namespace Mine
def Made (h h' : Heap) (led : List (Addr × Obj)) : Prop := ∀ p ∈ led, h'.get? p.1 = some p.2 ∧ h.get? p.1 = none
theorem news_made {h₀ h h' : Heap} {L : Addr} {m : Str → Option Value} {news led : List (Addr × Obj)} (F : Fr h₀ L h m) (N : News h₀ L h news) (hk : h.StaysIn h') (M : Made h h' led) : News h₀ L h' (led ++ news) := by
  intro p hp
  rcases List.mem_append.mp hp with hp | hp
  · obtain ⟨h1, h2⟩ := M p hp
    refine ⟨h1, fun e => ?_, ?_⟩
    · obtain ⟨o, _, _, ho, _⟩ := F.ns
      rw [e, ho] at h2; cases h2
    · cases q : h₀.get? p.1 with
      | none => rfl
      | some o => rw [F.keep _ _ q] at h2; cases h2
  · exact ⟨hk _ _ (N p hp).1, (N p hp).2⟩
theorem made_off {h₀ h h' : Heap} {L : Addr} {news led : List (Addr × Obj)} (N : News h₀ L h news) (M : Made h h' led) : ∀ p ∈ led, ∀ q ∈ news, p.1 ≠ q.1 := fun p hp q hq e => by
  have := (M p hp).2; rw [e, (N q hq).1] at this; cases this
theorem hide_stays {g h : Heap} {a : Addr} (k : g.StaysIn h) (ha : g.get? a = none) : g.StaysIn (h.hide a) := fun b o e =>
  (Heap.hide_ne h fun q => by rw [q, ha] at e; cases e).trans (k b o e)
theorem stays_unhide {h h' : Heap} {a : Addr} {o : Obj} (k : (h.hide a).StaysIn h') (ho : h.get? a = some o) (ho' : h'.get? a = some o) : h.StaysIn h' := fun b x e => by
  by_cases q : b = a
  · subst q; rw [ho] at e; cases e; exact ho'
  · exact k b x ((Heap.hide_ne h q).trans e)
end Mine
namespace Mine
/-- the walk halts here -/
def Stop (P : Prop) : Prop := P
theorem Stop.mk {P : Prop} (h : Stop P) : P := h
theorem Stop.go {P : Prop} (h : P) : Stop P := h
end Mine
namespace Mine
theorem allLt_ne {d : Addr} : ∀ {l : List (Addr × Obj)}, AllLt d l → ∀ p ∈ l, p.1 ≠ d
  | [], _, p, hp => absurd hp List.not_mem_nil
  | q :: l, h, p, hp => by
    rcases List.mem_cons.mp hp with rfl | hp
    · exact Nat.ne_of_lt h.1
    · exact allLt_ne h.2 p hp
end Mine

namespace Mine

def heldF : List Int → List Int → Int → Int
  | w :: ws, x :: xs, a => if x ≥ 2 ^ w.toNat then 0 else heldF ws xs (a + 1)
  | _, _, a => a
def layZ : List (List Int) := [List.replicate 28 1, List.replicate 7 2 ++ List.replicate 14 1, List.replicate 7 1 ++ List.replicate 7 2 ++ List.replicate 7 1, List.replicate 14 1 ++ List.replicate 7 2, List.replicate 14 2, 4 :: List.replicate 8 3,
  3 :: List.replicate 4 4 ++ List.replicate 3 3, List.replicate 7 4, List.replicate 4 5 ++ List.replicate 2 4, List.replicate 2 4 ++ List.replicate 4 5, List.replicate 3 6 ++ List.replicate 2 5, List.replicate 2 5 ++ List.replicate 3 6, List.replicate 4 7, [10, 9, 9], [14, 14], [28]]
def heldAll (xs : List Int) : List Int := layZ.map fun ws => heldF ws xs 0
def layAt (i : Nat) : List Int := layZ.getD i []
/-- every number stands within its width -/
def fitsB : List Int → List Int → Bool
  | w :: ws, x :: xs => decide (x < 2 ^ w.toNat) && fitsB ws xs
  | _, _ => true
def keyOf (xs : List Int) : Option Nat := (List.range 16).find? fun i => fitsB (layAt i) xs
def takenAt (i : Nat) (xs : List Int) : Nat := min (layAt i).length xs.length
/-- the word's value: the first number lowest, the key on top -/
def pk (key : Int) : List Int → List Int → Int
  | w :: ws, xs => xs.headD 0 + 2 ^ w.toNat * pk key ws xs.tail
  | [], _ => key
def valAt (i : Nat) (xs : List Int) : Int := pk i (layAt i) xs
def valsS : Nat → List Int → Option (List Int)
  | 0, _ => some []
  | _ + 1, [] => some []
  | n + 1, x :: xs => match keyOf (x :: xs) with
    | none => none
    | some i => (valsS n ((x :: xs).drop (takenAt i (x :: xs)))).map (valAt i (x :: xs) :: ·)
def rowOf (v : Int) : List Int := [Int.fmod v 256, Int.fmod (Int.fdiv v 256) 256, Int.fmod (Int.fdiv v 65536) 256, Int.fdiv v 16777216]

theorem heldF_fits : ∀ (ws xs : List Int) (a : Int), heldF ws xs a = if fitsB ws xs then a + (min ws.length xs.length : Nat) else 0
  | [], _, a => by simp [heldF, fitsB]
  | _ :: _, [], a => by simp [heldF, fitsB]
  | w :: ws, x :: xs, a => by
    rw [heldF, fitsB, heldF_fits ws xs (a + 1)]
    by_cases h : x < 2 ^ w.toNat
    · rw [if_neg (by omega)]
      simp only [h, decide_true, Bool.true_and, List.length_cons]
      split
      · have : min (ws.length + 1) (xs.length + 1) = min ws.length xs.length + 1 := by omega
        rw [this]; push_cast; omega
      · rfl
    · rw [if_pos (by omega)]
      simp [h]
end Mine

namespace Mine

theorem heldF_step {n1 n2 : List Int} {i : Nat} {a b : Int} (h1 : n1[i]? = some a) (h2 : n2[i]? = some b) (k : Int) :
    heldF (n1.drop i) (n2.drop i) k = if b ≥ 2 ^ a.toNat then 0 else heldF (n1.drop (i + 1)) (n2.drop (i + 1)) (k + 1) := by
  obtain ⟨p1, rfl⟩ := List.getElem?_eq_some_iff.mp h1
  obtain ⟨p2, rfl⟩ := List.getElem?_eq_some_iff.mp h2
  rw [List.drop_eq_getElem_cons p1, List.drop_eq_getElem_cons p2, heldF]
theorem heldF_end {n1 n2 : List Int} {i : Nat} (h : i = (n1.zip n2).length) (k : Int) : heldF (n1.drop i) (n2.drop i) k = k := by
  subst h
  rw [List.length_zip]
  rcases Nat.le_total n1.length n2.length with h | h
  · rw [Nat.min_eq_left h, List.drop_length]; rfl
  · rw [Nat.min_eq_right h, List.drop_length]; cases List.drop n2.length n1 <;> rfl

set_option maxHeartbeats 4000000 in
theorem held_spec {w : World} {me : ExcName → Option Value} {mg mb : Str → Option Value} {fr : Option (List Env)} {gd : Option (List Code)} {s : Shared} {Q E : Value → Shared → Prop}
    (X : (Mine.hd.heap_39 w.params).In s.heap) (T : TP me mg mb s.heap)
    {l1 l2 : Addr} {v1 v2 : List Value} {n1 n2 : List Int} (h1 : s.heap.IsList l1 v1.toArray) (h2 : s.heap.IsList l2 v2.toArray) (i1 : IntsAre v1 n1) (i2 : IntsAre v2 n2)
    (hw : ∀ x ∈ n1, 0 ≤ x ∧ x ≤ 28)
    (h : ∀ h' t tk, s.heap.StaysIn h' → Q (.int (heldF n1 n2 0) t) { s with heap := h', toks := tk }) :
    wpAny (model PySem.Challenge.rw_lh0074_01.row.prog w) (amb fr gd 400 400) (call (.ref 195) [.ref l1, .ref l2]) Q E s := by
  revert X; k_fill; intro X
  refine wpAny_call ?_
  k_dflt (refine' enter (binds := [(Str.ofString "widths", .ref l1), (Str.ofString "left", .ref l2)]) ?k1 ?k2 ?k3 ?k4 ?k5 ?k6 ?k7 ?_ ?c1 ?c2 ?c3 ?c4; (case k1 => assumption); (case k2 => exact T.nolimit); (case k3 => exact (by decide : (400 : Nat) < 1000)); (case k4 => k_is); (case k5 => k_is); (case k6 => exact BindsTo.of_eq rfl); (case k7 => exact locs rfl); (case c1 => exact rfl); (case c2 => exact rfl); (case c3 => exact rfl); (case c4 => decide))
  intro L h₁ F N
  (try dsimp only)
  (try k_fold)
  k_steps
  rename PairSrc2L _ _ _ _ _ _ _ _ _ _ _ _ _ _ => S
  refine PairSrc2L.at S _ rfl _ _ _ _ (fun i m nx => nx = [] ∧ (∃ t, m (Str.ofString "held") = some (.int i t)) ∧ heldF n1 n2 0 = heldF (n1.drop i) (n2.drop i) i) ⟨rfl, ⟨_, rfl⟩, rfl⟩ ?_ ?_
  · rintro i a b va vb m₁ nx s₁ own ⟨h₂, tk₂, rfl⟩ ha hb ⟨ta, rfl⟩ ⟨tb, rfl⟩ ⟨rfl, ⟨t, hm⟩, hs⟩ - - F₂ N₂
    clear S
    replace F₂ := fr_know F₂ (Str.ofString "held") _ hm
    have ha28 := hw a (List.mem_of_getElem? ha)
    k_steps
    · skip
      have e : heldF n1 n2 0 = 0 := by rw [hs, heldF_step ha hb, if_pos (by assumption)]
      rw [e] at h
      exact h _ _ _ F₂.keep
    · rw [hs, heldF_step ha hb, if_neg (by assumption)]; rfl
  · rintro h' tk m' nx F₂ N₂ - ⟨rfl, ⟨t, hm⟩, hs⟩
    replace F₂ := fr_know F₂ (Str.ofString "held") _ hm
    rw [heldF_end rfl] at hs
    dsimp only
    k_steps
    show Q _ _
    rw [← hs]
    exact h _ _ _ F₂.keep
end Mine

namespace Mine

/-- rows of ints, borne by a ledger -/
inductive RowsIn (led : List (Addr × Obj)) : List Value → List (List Int) → Prop where
  | nil : RowsIn led [] []
  | cons {a : Addr} {vs us : List Value} {ns : List Int} {rows : List (List Int)} {k : Nat} : (a, PySem.W.listOf vs.toArray k) ∈ led → IntsAre vs ns → RowsIn led us rows → RowsIn led (.ref a :: us) (ns :: rows)
theorem RowsIn.mono {led led' : List (Addr × Obj)} (hs : ∀ p ∈ led, p ∈ led') {us : List Value} {rows : List (List Int)} (h : RowsIn led us rows) : RowsIn led' us rows := by
  induction h with
  | nil => exact .nil
  | cons m i _ ih => exact .cons (hs _ m) i ih
theorem RowsIn.length {led : List (Addr × Obj)} {us : List Value} {rows : List (List Int)} (h : RowsIn led us rows) : us.length = rows.length := by
  induction h with
  | nil => rfl
  | cons _ _ _ ih => simp [ih]
theorem RowsIn.get {led : List (Addr × Obj)} {us : List Value} {rows : List (List Int)} (h : RowsIn led us rows) : ∀ {i : Nat} {ns : List Int}, rows[i]? = some ns →
    ∃ a vs k, us[i]? = some (.ref a) ∧ (a, PySem.W.listOf vs.toArray k) ∈ led ∧ IntsAre vs ns := by
  induction h with
  | nil => intro i ns e; simp at e
  | cons m i _ ih =>
    intro j ns e
    cases j with
    | zero => simp at e; subst e; exact ⟨_, _, _, by simp, m, i⟩
    | succ j => simp at e; simpa using ih e

section
variable {env : Env}
def EvI (env : Env) (e : Expr) (ns : List Int) : Prop :=
  ∀ (prog : Program) (w : World) (A : Around) (E : Value → Shared → Prop) (s : Shared) (Q : Value → Shared → Prop) (h₀ : Heap) (L : Addr) (m : Str → Option Value) (news : List (Addr × Obj)),
    Fr h₀ L s.heap m → News h₀ L s.heap news →
    (∀ a vs h' tk, Fr h₀ L h' m → News h₀ L h' ((a, PySem.W.listOf vs.toArray 0) :: news) → IntsAre vs ns → Q (.ref a) { s with heap := h', toks := tk }) →
    wpAny (model prog w) A (eval e env) Q E s

theorem EvI.of {e : Expr} {ns ms : List Int} (h : EvI env e ns) (q : ns = ms) : EvI env e ms := q ▸ h

inductive Lits : List Expr → List Int → Prop where
  | nil : Lits [] []
  | cons {n : Int} {k : Nat} {p : Pos} {es : List Expr} {ns : List Int} : Lits es ns → Lits (.Constant (.int n) k p :: es) (n :: ns)
theorem lits_spliced {M : Model} {A : Around} {E : Value → Shared → Prop} {pos : Pos} {es : List Expr} {ns : List Int} (h : Lits es ns) : ∀ {s : Shared} {Q : List Value → Shared → Prop},
    (∀ vs tk, IntsAre vs ns → Q vs { s with toks := tk }) → wpAny M A (spliced (backTo pos (starEach es env))) Q E s := by
  induction h with
  | nil => intro s Q h; exact spliced_none (h [] s.toks .nil)
  | cons _ ih =>
    intro s Q h
    refine spliced_more (wpAny_Constant_int ?_)
    exact ih fun vs tk hi => h _ tk (.cons _ _ hi)
theorem evI_list {es : List Expr} {ns : List Int} {pos : Pos} (h : Lits es ns) (hz : ns.length ≤ 1000) : EvI env (.List es pos) ns := by
  intro prog w A E s Q h₀ L m news F N k
  refine List_ (lits_spliced h fun vs tk hi => ?_)
  refine newList_N (s := { s with toks := tk }) F N (fun h' F' N' => k _ _ h' tk F' N' hi) ?_
  rw [hi.length, sizeLine_eq]; omega
theorem evI_mul {l : Expr} {ns : List Int} {x : Int} {k : Nat} {p pos : Pos} (h : EvI env l ns) (h0 : 0 ≤ x) (h1 : x ≤ 1000) (hz : ns.length ≤ 1000) : EvI env (.BinOp l .Mult (.Constant (.int x) k p) pos) (List.replicate x.toNat ns).flatten := by
  intro prog w A E s Q h₀ L m news F N kk
  refine wpAny_BinOp (h _ _ _ _ _ _ _ _ _ _ F N fun a vs h' tk F' N' hi => ?_)
  refine wpAny_Constant_int ?_
  have hN : (List.foldl (fun x1 x2 => x1 ++ x2) #[] (List.replicate (if vs.toArray.isEmpty = true then 0 else x.toNat) vs.toArray)) = (List.replicate x.toNat vs).flatten.toArray := listMul_foldl_if vs.toArray x.toNat
  refine mul_list (s := { s with heap := h', toks := tk + 1 }) (items := vs.toArray) (k := 0) F' N' (N' _ (.head _)).1 (by omega) (by omega) ?_ ?_
  · have hx : x.toNat ≤ 1000 := by omega
    have hs : vs.toArray.size ≤ 1000 := by rw [List.size_toArray, hi.length]; exact hz
    have := Nat.mul_le_mul hs hx
    omega
  · intro h₂ F₂ N₂
    rw [hN] at N₂
    exact kk _ _ h₂ (tk + 1) F₂ (fun p hp => N₂ p (by rcases List.mem_cons.mp hp with rfl | hp; exact .head _; exact .tail _ (.tail _ hp))) (KM.ints_rep hi _)
theorem evI_add {l r : Expr} {ns ms : List Int} {pos : Pos} (hl : EvI env l ns) (hr : EvI env r ms) (hz : ns.length ≤ 1000) (hz' : ms.length ≤ 1000) : EvI env (.BinOp l .Add r pos) (ns ++ ms) := by
  intro prog w A E s Q h₀ L m news F N kk
  refine wpAny_BinOp (hl _ _ _ _ _ _ _ _ _ _ F N fun a vs h' tk F' N' hi => ?_)
  refine hr _ _ _ _ { s with heap := h', toks := tk } _ _ _ _ _ F' N' fun b ws h₂ tk₂ F₂ N₂ hj => ?_
  refine add_arrays_ints (s := { s with heap := h₂, toks := tk₂ }) (ns := ns) (ms := ms) F₂ N₂ (News.isList N₂ (.tail _ (.head _))) (News.isList N₂ (.head _)) hi hj (fun h₃ F₃ N₃ hij => ?_) (by rw [sizeLine_eq]; omega)
  exact kk _ _ h₃ tk₂ F₃ (fun p hp => N₃ p (by rcases List.mem_cons.mp hp with rfl | hp; exact .head _; exact .tail _ (.tail _ (.tail _ hp)))) hij

inductive EvRows (env : Env) : List Expr → List (List Int) → Prop where
  | nil : EvRows env [] []
  | cons {e : Expr} {es : List Expr} {ns : List Int} {rows : List (List Int)} (hs : starEach (e :: es) env = (false, eval e env) :: starEach es env) : EvI env e ns → EvRows env es rows → EvRows env (e :: es) (ns :: rows)
theorem rows_spliced {env : Env} {es : List Expr} {rows : List (List Int)} {pos : Pos} (R : EvRows env es rows) (prog : Program) (w : World) (A : Around) (E : Value → Shared → Prop) : ∀ (s : Shared) (Q : List Value → Shared → Prop) (h₀ : Heap) (L : Addr) (m : Str → Option Value) (news : List (Addr × Obj)),
    Fr h₀ L s.heap m → News h₀ L s.heap news →
    (∀ us led h' tk, Fr h₀ L h' m → News h₀ L h' (led ++ news) → RowsIn led us rows → Q us { s with heap := h', toks := tk }) →
    wpAny (model prog w) A (spliced (backTo pos (starEach es env))) Q E s := by
  induction R with
  | nil => intro s Q h₀ L m news F N h; exact spliced_none (h [] [] s.heap s.toks F N .nil)
  | cons hs he _ ih =>
    intro s Q h₀ L m news F N h
    refine spliced_more (he _ _ _ _ _ _ _ _ _ _ F N fun a vs h' tk F' N' hi => ?_) hs
    refine ih { s with heap := h', toks := tk } _ _ _ _ _ F' N' fun us led h₂ tk₂ F₂ N₂ hr => ?_
    refine h _ ((a, PySem.W.listOf vs.toArray 0) :: led) h₂ tk₂ F₂ (fun p hp => N₂ p ?_) (.cons (.head _) hi (hr.mono fun p hp => .tail _ hp))
    simp only [List.mem_append, List.mem_cons, List.cons_append] at hp ⊢
    rcases hp with hp | hp | hp
    · exact .inr (.inl hp)
    · exact .inl hp
    · exact .inr (.inr hp)
end

set_option maxHeartbeats 4000000 in
theorem lay_spec {w : World} {me : ExcName → Option Value} {mg mb : Str → Option Value} {fr : Option (List Env)} {gd : Option (List Code)} {s : Shared} {Q E : Value → Shared → Prop}
    (X : (Mine.hd.heap_39 w.params).In s.heap) (T : TP me mg mb s.heap)
    (h : ∀ h' tk l us led, s.heap.StaysIn h' → Made s.heap h' ((l, PySem.W.listOf us.toArray 0) :: led) → RowsIn led us layZ → Q (.ref l) { s with heap := h', toks := tk }) :
    wpAny (model PySem.Challenge.rw_lh0074_01.row.prog w) (amb fr gd 400 400) (call (.ref 188) []) Q E s := by
  revert X; k_fill; intro X
  refine wpAny_call ?_
  k_dflt (refine' enter (binds := []) ?k1 ?k2 ?k3 ?k4 ?k5 ?k6 ?k7 ?_ ?c1 ?c2 ?c3 ?c4; (case k1 => assumption); (case k2 => exact T.nolimit); (case k3 => exact (by decide : (400 : Nat) < 1000)); (case k4 => k_is); (case k5 => k_is); (case k6 => exact BindsTo.of_eq rfl); (case k7 => exact locs rfl); (case c1 => exact rfl); (case c2 => exact rfl); (case c3 => exact rfl); (case c4 => decide))
  intro L h₁ F N
  (try dsimp only)
  refine wpAny_execs_cons (wpAny_Return_some (List_ ?_))
  refine rows_spliced (rows := layZ) ?_ _ _ _ _ _ _ _ _ _ _ F N fun us led h' tk F' N' hr => ?_
  · refine EvRows.cons rfl (EvI.of (evI_mul (evI_list (by repeat' constructor) (by decide)) (by decide) (by decide) (by decide)) (by decide)) ?_
    refine EvRows.cons rfl (EvI.of (evI_add (evI_mul (evI_list (by repeat' constructor) (by decide)) (by decide) (by decide) (by decide)) (evI_mul (evI_list (by repeat' constructor) (by decide)) (by decide) (by decide) (by decide)) (by decide) (by decide)) (by decide)) ?_
    refine EvRows.cons rfl (EvI.of (evI_add (evI_add (evI_mul (evI_list (by repeat' constructor) (by decide)) (by decide) (by decide) (by decide)) (evI_mul (evI_list (by repeat' constructor) (by decide)) (by decide) (by decide) (by decide)) (by decide) (by decide)) (evI_mul (evI_list (by repeat' constructor) (by decide)) (by decide) (by decide) (by decide)) (by decide) (by decide)) (by decide)) ?_
    refine EvRows.cons rfl (EvI.of (evI_add (evI_mul (evI_list (by repeat' constructor) (by decide)) (by decide) (by decide) (by decide)) (evI_mul (evI_list (by repeat' constructor) (by decide)) (by decide) (by decide) (by decide)) (by decide) (by decide)) (by decide)) ?_
    refine EvRows.cons rfl (EvI.of (evI_mul (evI_list (by repeat' constructor) (by decide)) (by decide) (by decide) (by decide)) (by decide)) ?_
    refine EvRows.cons rfl (EvI.of (evI_add (evI_list (by repeat' constructor) (by decide)) (evI_mul (evI_list (by repeat' constructor) (by decide)) (by decide) (by decide) (by decide)) (by decide) (by decide)) (by decide)) ?_
    refine EvRows.cons rfl (EvI.of (evI_add (evI_add (evI_list (by repeat' constructor) (by decide)) (evI_mul (evI_list (by repeat' constructor) (by decide)) (by decide) (by decide) (by decide)) (by decide) (by decide)) (evI_mul (evI_list (by repeat' constructor) (by decide)) (by decide) (by decide) (by decide)) (by decide) (by decide)) (by decide)) ?_
    refine EvRows.cons rfl (EvI.of (evI_mul (evI_list (by repeat' constructor) (by decide)) (by decide) (by decide) (by decide)) (by decide)) ?_
    refine EvRows.cons rfl (EvI.of (evI_add (evI_mul (evI_list (by repeat' constructor) (by decide)) (by decide) (by decide) (by decide)) (evI_mul (evI_list (by repeat' constructor) (by decide)) (by decide) (by decide) (by decide)) (by decide) (by decide)) (by decide)) ?_
    refine EvRows.cons rfl (EvI.of (evI_add (evI_mul (evI_list (by repeat' constructor) (by decide)) (by decide) (by decide) (by decide)) (evI_mul (evI_list (by repeat' constructor) (by decide)) (by decide) (by decide) (by decide)) (by decide) (by decide)) (by decide)) ?_
    refine EvRows.cons rfl (EvI.of (evI_add (evI_mul (evI_list (by repeat' constructor) (by decide)) (by decide) (by decide) (by decide)) (evI_mul (evI_list (by repeat' constructor) (by decide)) (by decide) (by decide) (by decide)) (by decide) (by decide)) (by decide)) ?_
    refine EvRows.cons rfl (EvI.of (evI_add (evI_mul (evI_list (by repeat' constructor) (by decide)) (by decide) (by decide) (by decide)) (evI_mul (evI_list (by repeat' constructor) (by decide)) (by decide) (by decide) (by decide)) (by decide) (by decide)) (by decide)) ?_
    refine EvRows.cons rfl (EvI.of (evI_mul (evI_list (by repeat' constructor) (by decide)) (by decide) (by decide) (by decide)) (by decide)) ?_
    refine EvRows.cons rfl (EvI.of (evI_list (by repeat' constructor) (by decide)) (by decide)) ?_
    refine EvRows.cons rfl (EvI.of (evI_list (by repeat' constructor) (by decide)) (by decide)) ?_
    refine EvRows.cons rfl (EvI.of (evI_list (by repeat' constructor) (by decide)) (by decide)) ?_
    exact EvRows.nil
  · refine newList_N (s := { s with heap := h', toks := tk }) F' N' (fun h₂ F₂ N₂ => ?_) ?_
    · refine h h₂ tk _ us led F₂.keep (fun p hp => ?_) hr
      have := N₂ p (by rcases List.mem_cons.mp hp with rfl | hp; exact .head _; exact .tail _ (List.mem_append_left _ hp))
      exact ⟨this.1, this.2.2⟩
    · rw [hr.length, sizeLine_eq]; decide
end Mine

namespace Mine

theorem ints_one {vs : List Value} {ns ms : List Int} (h : IntsAre vs ns) (h' : IntsAre vs ms) : ns = ms := by
  induction h generalizing ms with
  | nil => cases h'; rfl
  | cons n t _ ih => cases h' with | cons _ _ r => rw [ih r]
theorem rowsIn_paired {h : Heap} {led : List (Addr × Obj)} (hm : ∀ p ∈ led, h.get? p.1 = some p.2) {f : List Int → Int} {us : List Value} {rows : List (List Int)} (R : RowsIn led us rows) :
    ∀ {ys : List Value}, Paired (fun v y => ∃ a vs ns k t, v = .ref a ∧ h.get? a = some (PySem.W.listOf vs k) ∧ IntsAre vs.toList ns ∧ y = .int (f ns) t) us ys → IntsAre ys (rows.map f) := by
  induction R with
  | nil => intro ys p; cases p; exact .nil
  | cons mm ii _ ih =>
    intro ys p
    cases p with
    | cons hF hr =>
      obtain ⟨a, vs, ns, k, t, e, hg, hi, rfl⟩ := hF
      cases e
      have := hm _ mm
      rw [hg] at this
      have hv := (Data.seq.inj (congrArg Obj.data (Option.some.inj this))).1
      subst hv
      rw [ints_one hi ii]
      exact .cons _ _ (ih hr)

/-- the frame's own facts of a loop through `_law_words` -/
theorem layZ_small : ∀ ws ∈ layZ, ∀ x ∈ ws, 0 ≤ x ∧ x ≤ 28 := by decide

set_option maxHeartbeats 4000000 in
theorem counts_elt {w : World} {me : ExcName → Option Value} {mg mb : Str → Option Value} {fr : Option (List Env)} {gd : Option (List Code)} {s : Shared} {Q E : Value → Shared → Prop}
    {h₁ : Heap} {C L lf wa : Addr} {m : Str → Option Value} {o3 : Obj} {lv wv : List Value} {xs ws : List Int} {env : Env} {cl : List (Str × Addr)} {p1 p2 p3 p4 : Pos} {k k' : Nat}
    (X : (Mine.hd.heap_39 w.params).In h₁) (T : TP me mg mb h₁) (F : Fr h₁ C s.heap m) (hm : m (Str.ofString "widths") = some (.ref wa))
    (hw : h₁.get? wa = some (PySem.W.listOf wv.toArray k)) (hf : h₁.get? lf = some (PySem.W.listOf lv.toArray k')) (hi : IntsAre lv xs) (hj : IntsAre wv ws) (hws : ∀ x ∈ ws, 0 ≤ x ∧ x ≤ 28)
    (hc : cl.lookup (Str.ofString "left") = some (L + 1)) (ho : h₁.get? (L + 1) = some o3) (hd : o3.data = .cell (some (.ref lf)))
    (hg : env.globals = mainGlobals) (hk : env.scope.kind = .function) (hl : env.kindOf (Str.ofString "widths") = some .local) (hg2 : env.kindOf (Str.ofString "_law_held") = some .globalImplicit) (hcl : env.kindOf (Str.ofString "left") = some .cell) (hcs : env.cells = cl) (hL : env.locals = C)
    (h : ∀ h' t tk, s.heap.StaysIn h' → Q (.int (heldF ws xs 0) t) { s with heap := h', toks := tk }) :
    wpAny (model PySem.Challenge.rw_lh0074_01.row.prog w) (amb fr gd 400 400) (eval (.Call (.Name (Str.ofString "_law_held") p1) [.Name (Str.ofString "widths") p2, .Name (Str.ofString "left") p3] [] p4) env) Q E s := by
  revert X; k_fill; intro X
  have X' := X.keeps F.keep
  refine Call_ ?_
  refine nameG_K (v := .ref 195) F X (topRead_of T) (by k_is) ?_ hg hk hg2 (by decide)
  refine callWith_K (K := Mine.hd.heap_39 w.params) X (by k_is) (spliced_more (wpAny_Name (wpAny_loadName_local hk hl (hL ▸ F.ns) hm (spliced_more (wpAny_Name (wpAny_loadName_cell hk hcl (hcs ▸ hc) ⟨o3, F.keep _ _ ho, hd⟩ (spliced_none ⟨X', ?_⟩))) rfl))) rfl) rfl rfl
  exact held_spec X' (T.keeps F.keep) (v1 := wv) (v2 := lv) ⟨_, F.keep _ _ hw, rfl, _, rfl⟩ ⟨_, F.keep _ _ hf, rfl, _, rfl⟩ hj hi hws h

abbrev cSc : Scope := { kind := .function, names := [(Str.ofString ".0", .local), (Str.ofString "widths", .local), (Str.ofString "_law_held", .globalImplicit), (Str.ofString "left", .free)], isGenerator := false, isCoroutine := false, more := [] }

set_option maxHeartbeats 4000000 in
theorem counts_eval {w : World} {me : ExcName → Option Value} {mg mb : Str → Option Value} {fr : Option (List Env)} {gd : Option (List Code)} {s : Shared} {Q E : Value → Shared → Prop}
    {g : Heap} {L lf la : Addr} {m : Str → Option Value} {o3 : Obj} {lv us : List Value} {xs : List Int} {env : Env} {cl : List (Str × Addr)} {p1 p2 p3 p4 p5 p6 p7 : Pos} {k k' : Nat} {news rest : List (Addr × Obj)}
    (X : (Mine.hd.heap_39 w.params).In g) (T : TP me mg mb g) (F : Fr g L s.heap m) (N : News g L s.heap news) (hm : m (Str.ofString "layouts") = some (.ref la))
    (hla : (la, PySem.W.listOf us.toArray k) ∈ news) (hlf : (lf, PySem.W.listOf lv.toArray k') ∈ news) (ho : (L + 1, o3) ∈ news) (hsub : ∀ p ∈ rest, p ∈ news) (R : RowsIn rest us layZ) (hi : IntsAre lv xs)
    (hc : cl.lookup (Str.ofString "left") = some (L + 1)) (hd : o3.data = .cell (some (.ref lf)))
    (hk : env.scope.kind = .function) (hl : env.kindOf (Str.ofString "layouts") = some .local) (hEL : env.locals = L)
    (hclos : closureFor cSc env = pure cl) (hg : env.globals = mainGlobals) (hfs : ∀ x, foldedSetIterable (.Name (Str.ofString "layouts") p5) env x = pure x)
    (e1 : ∀ C, (compEnvC cSc cl C env).kindOf (Str.ofString "widths") = some .local) (e2 : ∀ C, (compEnvC cSc cl C env).kindOf (Str.ofString "_law_held") = some .globalImplicit) (e3 : ∀ C, (compEnvC cSc cl C env).kindOf (Str.ofString "left") = some .cell)
    (h : ∀ h' D ys kk tk, Fr g L h' m → News g L h' ((D, PySem.W.listOf ys.toArray kk) :: news) → IntsAre ys (heldAll xs) → (∀ p ∈ news, p.1 ≠ D) → Q (.ref D) { s with heap := h', toks := tk }) :
    wpAny (model PySem.Challenge.rw_lh0074_01.row.prog w) (amb fr gd 400 400)
      (eval (.ListComp (.Call (.Name (Str.ofString "_law_held") p1) [.Name (Str.ofString "widths") p2, .Name (Str.ofString "left") p3] [] p4) [⟨.Name (Str.ofString "widths") p6, .Name (Str.ofString "layouts") p5, [], 0⟩] cSc p7) env) Q E s := by
  have hus : us.length = 16 := R.length.trans (by decide)
  have hLla : s.heap.IsList la us.toArray := News.isList N hla
  have hlt : la < s.heap.objs.size := Heap.lt_size (N _ hla).1
  refine wpAny_ListComp_free (cl := cl) (fun _ => true) (fun v y => ∃ a vs ns kk t, v = .ref a ∧ s.heap.get? a = some (PySem.W.listOf vs kk) ∧ IntsAre vs.toList ns ∧ y = .int (heldF ns xs 0) t) hclos (by decide) rfl (by decide) (by decide) ?_ hfs
  refine wpAny_Name (wpAny_loadName_local hk hl (hEL ▸ F.ns) hm ?_) (by decide)
  refine wpAny_pyIter_list hLla ⟨s.heap.objs.size, [s.heap.objs.size, la], [s.heap.objs.size], us.toArray.size, _, _, rfl, Walks.list rfl _ _ (Nat.ne_of_lt hlt) us.toArray, (by rw [List.size_toArray, hus, sizeLine_eq]; decide), ⟨⟨_, Heap.get?_push_size _ rfl, rfl, rfl⟩, hLla.push _⟩, ?_, ?_, ?_⟩
  · intro b hb
    show b < (s.heap.push _).objs.size
    rw [Heap.size_push]
    rcases List.mem_cons.mp hb with rfl | hb
    · exact Nat.lt_succ_self _
    · rw [List.mem_singleton.mp hb]; exact Nat.lt_succ_of_lt hlt
  · have up : ∀ s₃ : Shared, (∀ b o, b ∉ [s.heap.objs.size] → (s.heap.push { cls := .type "list_iterator", data := .fields #[.ref la, .int 0 0] }).get? b = some o → s₃.heap.get? b = some o) → ∀ b o, s.heap.get? b = some o → s₃.heap.get? b = some o :=
      fun s₃ hk b o e => hk b o (fun hm => Nat.lt_irrefl _ (by have := Heap.lt_size e; rw [List.mem_singleton.mp hm] at this; exact this)) (Heap.get?_push_of_some _ e)
    refine ⟨fun C i v s₃ m₃ E' hC hv hn hm₃ hkp htk => ?_, fun C i v s₃ m₃ E' hC hv _ hn hm₃ hkp htk => ?_⟩
    · exact wpAny_pure ⟨rfl, _, _, rfl, fun _ _ e => e⟩
    · have F₃ : Fr s.heap C s₃.heap m₃ := ⟨hn, up s₃ hkp, Nat.le_trans (by show s.heap.objs.size ≤ (s.heap.push _).objs.size; rw [Heap.size_push]; exact Nat.le_succ _) hC⟩
      have hv' : us[i]? = some v := by simpa using hv
      have hi16 : i < 16 := by rw [← hus]; exact (List.getElem?_eq_some_iff.mp hv').1
      obtain ⟨ns, hns⟩ : ∃ ns, layZ[i]? = some ns := ⟨layZ[i]'hi16, List.getElem?_eq_getElem _⟩
      obtain ⟨wa, wv, kw, hwa, hmem, hj⟩ := R.get hns
      rw [hv'] at hwa
      obtain rfl := Option.some.inj hwa
      have hwm := (N _ (hsub _ hmem)).1
      refine counts_elt (h₁ := s.heap) (C := C) (L := L) (X.keeps F.keep) (T.keeps F.keep) F₃ hm₃ hwm (N _ hlf).1 hi hj (layZ_small ns (List.mem_of_getElem? hns)) hc (N _ ho).1 hd hg rfl (e1 C) (e2 C) (e3 C) rfl rfl fun h' t tk hst => ?_
      exact ⟨⟨wa, _, ns, _, t, rfl, hwm, hj, rfl⟩, h', tk, rfl, hst⟩
  · intro D h' tk ys vs hD hlD hpl hlen hP hF hkp
    have hvs : vs = us := by
      apply List.ext_getElem?
      intro j
      cases e : vs[j]? with
      | some v => have := hP j v e; simpa using this.symm
      | none =>
        have : us.length ≤ j := by rw [hus]; have := List.getElem?_eq_none_iff.mp e; rw [hlen] at this; simpa [hus] using this
        rw [List.getElem?_eq_none_iff.mpr this]
    subst hvs
    have up : s.heap.StaysIn h' := fun b o e => hkp b o (fun hm => Nat.lt_irrefl _ (by have := Heap.lt_size e; rw [List.mem_singleton.mp hm] at this; exact this)) (Heap.get?_push_of_some _ e)
    have hDs : s.heap.get? D = none := by
      cases q : s.heap.get? D with
      | none => rfl
      | some o => rw [show (s.heap.push _).get? D = some o from Heap.get?_push_of_some _ q] at hD; cases hD
    obtain ⟨kk, hpl⟩ := hpl
    have hys : IntsAre ys.toList (heldAll xs) := rowsIn_paired (h := s.heap) (fun p hp => (N p (hsub p hp)).1) (f := fun ns => heldF ns xs 0) R (by rw [show vs.filter (fun _ => true) = vs from List.filter_eq_self.mpr fun _ _ => rfl] at hF; exact hF)
    refine h h' D ys.toList kk tk (F.keeps up) ?_ hys ?_
    · refine news_made (led := [(D, PySem.W.listOf ys.toList.toArray kk)]) F N up fun p hp => ?_
      rw [List.mem_singleton.mp hp]
      exact ⟨by simpa using hpl, hDs⟩
    · intro p hp e
      have := (N p hp).1
      rw [e, hDs] at this; cases this
end Mine

namespace Mine

abbrev pSc : Scope := { kind := .function, names := [(Str.ofString ".0", .local), (Str.ofString "place", .local), (Str.ofString "counts", .free), (Str.ofString "held", .free)], isGenerator := false, isCoroutine := false, more := [] }

theorem walks_strong {prog : Program} {w : World} {A : Around} {I : Addr} {fp wr : List Addr} {n : Nat} {P : Nat → Value → Prop} {St : Nat → Heap → Prop} (W : Walks prog w A I fp wr n P St) : Walks prog w A I fp wr n (fun i v => i < n ∧ P i v) St :=
  ⟨W.sub, W.frame, fun i s Q E hi hst hQ => W.item i s Q E hi hst fun v h' tk hv => hQ v h' tk ⟨hi, hv⟩, W.done, W.self⟩

/-- the places at which a list holds one int -/
def placesOf (cs : List Int) (M : Int) (n : Nat) : List Int := ((List.range n).filter fun i => cs.getD i 0 == M).map Int.ofNat

theorem range_paired {p : Value → Bool} {q : Nat → Bool} (hp : ∀ (i : Nat) t, p (Value.int (0 + (i : Int) * 1) t) = q i) :
    ∀ (m k : Nat) {vs ys : List Value}, vs.length = m → (∀ j v, vs[j]? = some v → ∃ t, v = Value.int (0 + ((k + j : Nat) : Int) * 1) t) → Paired (fun (v y : Value) => ∃ i t t', v = Value.int i t ∧ y = Value.int i t') (vs.filter p) ys →
      IntsAre ys (((List.range' k m).filter q).map Int.ofNat) := by
  intro m
  induction m with
  | zero => intro k vs ys hl hv hP; obtain rfl := List.eq_nil_of_length_eq_zero hl; cases hP; exact .nil
  | succ m ih =>
    intro k vs ys hl hv hP
    obtain ⟨v, vs, rfl⟩ := List.exists_cons_of_length_eq_add_one hl
    obtain ⟨t, rfl⟩ := hv 0 v (by simp)
    have hr : ∀ j w, vs[j]? = some w → ∃ t, w = Value.int (0 + ((k + 1 + j : Nat) : Int) * 1) t := fun j w hw => by
      obtain ⟨t', e⟩ := hv (j + 1) w (by simpa using hw)
      exact ⟨t', by rw [e, show k + (j + 1) = k + 1 + j by omega]⟩
    rw [List.range'_succ, List.filter_cons]
    rw [List.filter_cons, hp] at hP
    simp only [Nat.add_zero] at hP
    split
    · rename_i hq
      rw [if_pos hq] at hP
      cases hP with
      | cons hF hr' =>
        obtain ⟨i, t1, t2, e, rfl⟩ := hF
        obtain ⟨rfl, -⟩ := Value.int.inj e
        rw [List.map_cons, show (0 : Int) + ((k : Nat) : Int) * 1 = Int.ofNat k by simp]
        exact .cons _ _ (ih (k + 1) (by simpa using hl) hr hr')
    · rename_i hq
      rw [if_neg hq] at hP
      exact ih (k + 1) (by simpa using hl) hr hP

set_option maxHeartbeats 4000000 in
theorem places_eval {w : World} {me : ExcName → Option Value} {mg mb : Str → Option Value} {fr : Option (List Env)} {gd : Option (List Code)} {s : Shared} {Q E : Value → Shared → Prop}
    {g : Heap} {L D : Addr} {m : Str → Option Value} {oc oh : Obj} {ys : List Value} {cs : List Int} {M : Int} {tM : Tok} {env : Env} {cl : List (Str × Addr)} {p0 p1 p2 p3 p4 p5 p6 p7 p8 p9 pos : Pos} {k ck : Nat} {news : List (Addr × Obj)}
    (X : (Mine.hd.heap_39 w.params).In g) (T : TP me mg mb g) (F : Fr g L s.heap m) (N : News g L s.heap news)
    (hD : (D, PySem.W.listOf ys.toArray k) ∈ news) (hoc : (L + 1 + 1, oc) ∈ news) (hoh : (L + 1 + 1 + 1, oh) ∈ news) (hi : IntsAre ys cs) (h16 : cs.length = 16)
    (hc : cl.lookup (Str.ofString "counts") = some (L + 1 + 1)) (hc' : cl.lookup (Str.ofString "held") = some (L + 1 + 1 + 1)) (hdc : oc.data = .cell (some (.ref D))) (hdh : oh.data = .cell (some (.int M tM)))
    (hk : env.scope.kind = .function) (hr : env.kindOf (Str.ofString "range") = some .globalImplicit) (hEL : env.locals = L)
    (hclos : closureFor pSc env = pure cl) (hg : env.globals = mainGlobals) (hb : env.builtins = builtinsNs) (hfs : ∀ x, foldedSetIterable (.Call (.Name (Str.ofString "range") p1) [.Constant (.int 16) ck p2] [] p3) env x = pure x)
    (e1 : ∀ C, (compEnvC pSc cl C env).kindOf (Str.ofString "place") = some .local) (e2 : ∀ C, (compEnvC pSc cl C env).kindOf (Str.ofString "counts") = some .cell) (e3 : ∀ C, (compEnvC pSc cl C env).kindOf (Str.ofString "held") = some .cell)
    (h : ∀ h' D' zs kk tk, Fr g L h' m → News g L h' ((D', PySem.W.listOf zs.toArray kk) :: news) → IntsAre zs (placesOf cs M 16) → (∀ p ∈ news, p.1 ≠ D') → Q (.ref D') { s with heap := h', toks := tk }) :
    wpAny (model PySem.Challenge.rw_lh0074_01.row.prog w) (amb fr gd 400 400)
      (eval (.ListComp (.Name (Str.ofString "place") p0) [⟨.Name (Str.ofString "place") p4, .Call (.Name (Str.ofString "range") p1) [.Constant (.int 16) ck p2] [] p3,
        [.Compare (.Subscript (.Name (Str.ofString "counts") p5) (.Name (Str.ofString "place") p6) p7) [.Eq] [.Name (Str.ofString "held") p8] p9], 0⟩] pSc pos) env) Q E s := by
  revert X; k_fill; intro X
  refine wpAny_ListComp_free (cl := cl) (fun v => match v with | .int i _ => cs.getD i.toNat 0 == M | _ => false) (fun v y => ∃ i t t', v = .int i t ∧ y = .int i t') hclos (by decide) rfl (by decide) (by decide) ?_ hfs
  have hn : nsIn (Mine.hd.heap_39 w.params) mainGlobals (Str.ofString "range") = some none := by k_is
  refine Call_ ?_
  refine Name_function_global hk hr (loadGlobal_builtin (env := env) (mg := mg) (mb := mb) (by rw [hg]; exact T.g.keeps F.keep) (mg_none_of X T.g hn) (by rw [hb]; exact T.b.keeps F.keep) ((T.builtins _ (by decide)).trans boot_range) ?_) (by decide)
  refine Pv.callWith_type1 (spliced_more (wpAny_Constant_int (spliced_none ?_)) rfl) rfl rfl
  refine call_range_1 ?_
  refine wpAny_pyIter_range (IsRange.new _ _ _ _ _ _ _) (by decide) ?_
  generalize hH1 : s.heap.push { cls := .type "range", data := .fields #[.int 0 (s.toks + 1), .int 16 s.toks, .int 1 (s.toks + 1 + 1)] } = H1
  have k1 : s.heap.StaysIn H1 := fun b o e => hH1 ▸ Heap.get?_push_of_some _ e
  have z1 : H1.objs.size = s.heap.objs.size + 1 := by rw [← hH1, Heap.size_push]
  dsimp only
  have k2 : ∀ o, H1.StaysIn (H1.push o) := fun o b x e => Heap.get?_push_of_some _ e
  have up : ∀ (s₃ : Heap) o, (∀ b x, b ∉ [H1.objs.size] → (H1.push o).get? b = some x → s₃.get? b = some x) → s.heap.StaysIn s₃ :=
    fun s₃ o hkp b x e => hkp b x (fun hm => by
      have e1 : b = H1.objs.size := List.mem_singleton.mp hm
      have := ltN (Heap.lt_size e)
      rw [e1, z1] at this
      omega) (k2 o _ _ (k1 _ _ e))
  refine ⟨H1.objs.size, [H1.objs.size], [H1.objs.size], 16, _, _, rfl, walks_strong (Walks.range rfl _ 0 1 16), (by rw [sizeLine_eq]; decide), Heap.get?_push_size _ rfl, ?_, ?_, ?_⟩
  · intro b hb
    rw [List.mem_singleton.mp hb]
    show H1.objs.size < (H1.push _).objs.size
    rw [Heap.size_push]; exact Nat.lt_succ_self _
  · refine ⟨fun C i v s₃ m₃ E' hC hv hn₃ hm₃ hkp htk => ?_, fun C i v s₃ m₃ E' hC hv _ hn₃ hm₃ hkp htk => ?_⟩
    · obtain ⟨i16, t, rfl⟩ := hv
      have hst := up _ _ hkp
      have hx : ys[i]? = some (ys[i]'(by rw [hi.length, h16]; exact i16)) := List.getElem?_eq_getElem _
      obtain ⟨ti, hy⟩ := hi.get i (cs[i]'(by rw [h16]; exact i16)) (by simp)
      have hgd : cs.getD i 0 = cs[i]'(by rw [h16]; exact i16) := by simp [List.getD, h16, i16]
      rw [List.forIn_cons]
      simp only [if_true, List.forIn_nil]
      refine wpAny_bind (wpAny_bind ?_)
      refine wpAny_isTrue_Compare1 (Subscript_ ?_) rfl
      refine wpAny_Name (wpAny_loadName_cell rfl (e2 C) hc ⟨oc, hst _ _ (N _ hoc).1, hdc⟩ ?_) (by decide)
      refine wpAny_Name (wpAny_loadName_local rfl (e1 C) hn₃ hm₃ ?_) (by decide)
      refine tail_any (T := "list") ⟨_, hst _ _ (N _ hD).1, rfl⟩ slot_list_getitem.lookup (wpAny_getItem_list ⟨_, hst _ _ (N _ hD).1, rfl, _, rfl⟩ (by omega) (by omega) (by simpa using hy) ?_) (by with_unfolding_all rfl)
      refine wpAny_Name (wpAny_loadName_cell rfl (e3 C) hc' ⟨oh, hst _ _ (N _ hoh).1, hdh⟩ ?_) (by decide)
      refine eq_int (wpAny_truthy_bool (wpAny_pure (wpAny_pure ⟨?_, _, _, rfl, fun _ _ e => e⟩)))
      simp [h16, i16]
    · obtain ⟨_, t, rfl⟩ := hv
      exact wpAny_Name (wpAny_loadName_local rfl (e1 C) hn₃ hm₃ ⟨⟨_, _, _, rfl, rfl⟩, _, _, rfl, fun _ _ e => e⟩) (by decide)
  · intro D' h' tk zs vs hD' hlD hpl hlen hP hF hkp
    have hst := up h' _ hkp
    have hDs : s.heap.get? D' = none := by
      cases q : s.heap.get? D' with
      | none => rfl
      | some o => rw [show (H1.push _).get? D' = some o from k2 _ _ _ (k1 _ _ q)] at hD'; cases hD'
    obtain ⟨kk, hpl⟩ := hpl
    have hzs : IntsAre zs.toList (placesOf cs M 16) := by
      have := range_paired (q := fun i => cs.getD i 0 == M) (p := fun v => match v with | .int i _ => cs.getD i.toNat 0 == M | _ => false) (fun i t => by simp) 16 0 hlen (fun j v hv => by simpa using (hP j v hv).2) hF
      rw [← List.range_eq_range'] at this
      exact this
    refine h h' D' zs.toList kk tk (F.keeps hst) ?_ hzs ?_
    · refine news_made (led := [(D', PySem.W.listOf zs.toList.toArray kk)]) F N hst fun p hp => ?_
      rw [List.mem_singleton.mp hp]
      exact ⟨by simpa using hpl, hDs⟩
    · intro p hp e
      have := (N p hp).1
      rw [e, hDs] at this; cases this
end Mine

namespace Mine
/-- a turn's end: the loop goes on (no return, no break, no continue) -/
def LpEnd (h₀ : Heap) (L : Addr) (J : (Str → Option Value) → Prop) (news : List (Addr × Obj)) (s₁ : Shared) (f : Flow) (s₂ : Shared) : Prop :=
  f = .next ∧ ∃ h' tk m', s₂ = { s₁ with heap := h', toks := tk } ∧ Fr h₀ L h' m' ∧ News h₀ L h' news ∧ J m'
section
variable {prog : Program} {w : World} {A : Around} {E : Value → Shared → Prop} {s : Shared} {env : Env} {h₀ : Heap} {x : Str} {body : List Stmt} {Q : Flow → Shared → Prop}
theorem for_range {r : Addr} {a b c : Int} {t u v : Tok} {n : Nat} {m₀ : Str → Option Value} {news : List (Addr × Obj)} (J : Nat → (Str → Option Value) → Prop)
    (hh : A.handled = none) (hR : IsRange s.heap r a b c t u v) (hsm : Builtin.Range.small a b c = true) (hn : Builtin.Range.rangeSize a b c = n) (F : Fr h₀ env.locals s.heap m₀) (N : News h₀ env.locals s.heap news) (hj : J 0 m₀)
    (turn : ∀ i t m₁ h tk own, i < n → J i m₁ → Fr h₀ env.locals h (fun y => if y = x then some (.int (a + (i : Nat) * c) t) else m₁ y) → News h₀ env.locals h (own ++ news) →
      wpAny (model prog w) A (execs body env) (LpEnd h₀ env.locals (J (i + 1)) (own ++ news) { s with heap := h, toks := tk }) E { s with heap := h, toks := tk })
    (done : ∀ m₁ h tk, J n m₁ → Fr h₀ env.locals h m₁ → News h₀ env.locals h news → Q .next { s with heap := h, toks := tk }) :
    wpAny (model prog w) A (pyIter (.ref r)) (fun it s₂ => LoopAtV prog w A h₀ env x body Q E it s₂) E s := by
  refine wpAny_pyIter_range hR hsm ?_
  have W := walks_strong (Walks.range (prog := prog) (w := w) hh s.heap.objs.size a c n)
  let J' : Nat → (Str → Option Value) → List (Addr × Obj) → Prop := fun i m₁ news₁ => news₁ = news ∧ J i m₁
  refine ⟨_, _, _, n, _, _, m₀, news, J', rfl, W, ?_, ?_, ?_, ?_, F.push _, (fun p hp => ⟨Heap.get?_push_of_some _ (N p hp).1, (N p hp).2⟩), ⟨rfl, hj⟩, ?_, ?_⟩
  · intro hm
    have e := List.mem_singleton.mp hm
    exact absurd F.ns.lt (e ▸ Nat.lt_irrefl _)
  · intro b hb
    rw [List.mem_singleton.mp hb]
    exact next_is_new F
  · intro p hp hI
    exact absurd (Heap.lt_size (N p hp).1) ((List.mem_singleton.mp hI) ▸ Nat.lt_irrefl _)
  · show IsRangeIter _ _ _ _ _
    have : (s.heap.push { cls := .type "range_iterator", data := .fields #[rawInt a, rawInt (Builtin.Range.rangeSize a b c), rawInt c] }).get? s.heap.objs.size = _ := Heap.get?_push_size _ rfl
    simpa [IsRangeIter, hn] using this
  · rintro i v m₁ news₁ s₁ own ⟨hh', tk', rfl⟩ hin ⟨_, tv, rfl⟩ ⟨rfl, hJ⟩ hoff _ _ _ _ F₁ N₁
    refine wpAny_mono (turn i tv m₁ hh' tk' own hin hJ F₁ N₁) (fun f s₂ p => ?_) fun _ _ e => e
    obtain ⟨rfl, h', tk, m', e, F', N', hm⟩ := p
    exact .next ⟨rfl, h', tk, m', news₁, e, F', N', hoff, rfl, hm⟩
  · rintro h' tk m' news' F' N' _ ⟨rfl, hJ⟩
    exact done m' h' tk hJ F' N'
end
theorem rangeSize_down (n : Nat) : Builtin.Range.rangeSize ((n : Int) - 1) (-1) (-1) = n := by
  simp [Builtin.Range.rangeSize]; omega
theorem small_down (n : Nat) (h : n ≤ 100) : Builtin.Range.small ((n : Int) - 1) (-1) (-1) = true := by
  simp [Builtin.Range.small, rangeSize_down, Builtin.Range.rangeFitsLong]; omega
theorem rangeSize_up (n : Nat) : Builtin.Range.rangeSize 0 n 1 = n := by
  simp [Builtin.Range.rangeSize]; omega
theorem small_up (n : Nat) (h : n ≤ 100) : Builtin.Range.small 0 n 1 = true := by
  simp [Builtin.Range.small, rangeSize_up, Builtin.Range.rangeFitsLong]; omega
end Mine

namespace Mine

theorem layZ_len : layZ.length = 16 := by decide
theorem heldAll_len (xs : List Int) : (heldAll xs).length = 16 := by simp [heldAll, layZ_len]
theorem heldAll_getD (xs : List Int) {j : Nat} (hj : j < 16) : (heldAll xs).getD j 0 = if fitsB (layAt j) xs then (takenAt j xs : Int) else 0 := by
  have h1 : j < layZ.length := by rw [layZ_len]; exact hj
  have h2 : layAt j = layZ[j] := by simp [layAt, List.getD, h1]
  have h3 : (heldAll xs).getD j 0 = heldF (layZ[j]) xs 0 := by simp [heldAll, List.getD, h1]
  rw [h3, heldF_fits, h2, takenAt, h2]
  simp
theorem mem_heldAll {xs : List Int} {M : Int} : M ∈ heldAll xs ↔ ∃ j, j < 16 ∧ (heldAll xs).getD j 0 = M := by
  constructor
  · intro h
    obtain ⟨j, hj, e⟩ := List.getElem_of_mem h
    rw [heldAll_len] at hj
    exact ⟨j, hj, by simp [List.getD, heldAll_len, hj, e]⟩
  · rintro ⟨j, hj, rfl⟩
    simp [List.getD, heldAll_len, hj]
theorem lay_falls : ∀ i < 16, ∀ j < 16, i ≤ j → (layAt j).length ≤ (layAt i).length := by decide
theorem lay_pos : ∀ i < 16, 0 < (layAt i).length := by decide

theorem keyOf_some {xs : List Int} {i : Nat} (h : keyOf xs = some i) : i < 16 ∧ fitsB (layAt i) xs = true ∧ ∀ j < i, fitsB (layAt j) xs = false := by
  unfold keyOf at h
  rw [List.find?_range_eq_some] at h
  obtain ⟨h1, h2, h3⟩ := h
  refine ⟨by simpa using h2, h1, fun j hj => ?_⟩
  simpa using h3 j hj
theorem keyOf_none {xs : List Int} (h : keyOf xs = none) : ∀ j < 16, fitsB (layAt j) xs = false := by
  intro j hj
  have := List.find?_eq_none.mp h j (by simpa using hj)
  simpa using this

theorem key_max {xs : List Int} {M : Int} (hM : M ∈ heldAll xs) (hmax : ∀ a ∈ heldAll xs, a ≤ M) : (keyOf xs = none → M = 0) ∧ (∀ i, keyOf xs = some i → M = takenAt i xs) := by
  obtain ⟨j, hj, e⟩ := mem_heldAll.mp hM
  rw [heldAll_getD xs hj] at e
  constructor
  · intro hn
    rw [keyOf_none hn j hj] at e
    simpa using e.symm
  · intro i hi
    obtain ⟨i16, hf, hlow⟩ := keyOf_some hi
    have h1 : (takenAt i xs : Int) ≤ M := hmax _ (mem_heldAll.mpr ⟨i, i16, by rw [heldAll_getD xs i16, if_pos hf]⟩)
    split at e
    · rename_i hfj
      have hij : i ≤ j := by
        rcases Nat.lt_or_ge j i with h | h
        · rw [hlow j h] at hfj; cases hfj
        · exact h
      have := lay_falls i i16 j hj hij
      have : takenAt j xs ≤ takenAt i xs := by unfold takenAt; omega
      omega
    · have : 0 ≤ (takenAt i xs : Int) := by omega
      omega

theorem key_min {xs : List Int} {M K : Int} (hx : xs ≠ []) (hM : M ∈ heldAll xs) (hmax : ∀ a ∈ heldAll xs, a ≤ M) (h0 : M ≠ 0) (hK : K ∈ placesOf (heldAll xs) M 16) (hmin : ∀ a ∈ placesOf (heldAll xs) M 16, K ≤ a) :
    ∃ i : Nat, keyOf xs = some i ∧ i < 16 ∧ K = i ∧ M = takenAt i xs ∧ 0 < takenAt i xs := by
  obtain ⟨h1, h2⟩ := key_max hM hmax
  cases hk : keyOf xs with
  | none => exact absurd (h1 hk) h0
  | some i =>
    obtain ⟨i16, hf, hlow⟩ := keyOf_some hk
    have hMi := h2 i hk
    have hpos : 0 < takenAt i xs := by
      unfold takenAt
      have := lay_pos i i16
      have := List.length_pos_iff.mpr hx
      omega
    refine ⟨i, rfl, i16, ?_, hMi, hpos⟩
    have hmem : (i : Int) ∈ placesOf (heldAll xs) M 16 := by
      unfold placesOf
      refine List.mem_map.mpr ⟨i, List.mem_filter.mpr ⟨List.mem_range.mpr i16, ?_⟩, rfl⟩
      rw [heldAll_getD xs i16, if_pos hf, hMi]; simp
    have hle := hmin _ hmem
    obtain ⟨j, hj, rfl⟩ := List.mem_map.mp hK
    obtain ⟨hj16, hje⟩ := List.mem_filter.mp hj
    have hj16 := List.mem_range.mp hj16
    rw [heldAll_getD xs hj16] at hje
    by_cases hji : j < i
    · rw [hlow j hji] at hje
      simp at hje
      exact absurd hje.symm h0
    · have : (Int.ofNat j) = (j : Int) := rfl
      omega
end Mine
namespace Mine
theorem valsS_none {n : Nat} {xs : List Int} (hx : xs ≠ []) (hn : xs.length < n) (h : keyOf xs = none) : valsS n xs = none := by
  cases n with
  | zero => exact absurd hn (Nat.not_lt_zero _)
  | succ n => cases xs with
    | nil => exact absurd rfl hx
    | cons x xs => rw [valsS, h]
theorem valsS_some {n : Nat} {xs : List Int} {i : Nat} (hx : xs ≠ []) (h : keyOf xs = some i) : valsS (n + 1) xs = (valsS n (xs.drop (takenAt i xs))).map (valAt i xs :: ·) := by
  cases xs with
  | nil => exact absurd rfl hx
  | cons x xs => rw [valsS, h]
theorem key_none {xs : List Int} {M : Int} (hx : xs ≠ []) (hM : M ∈ heldAll xs) (hmax : ∀ a ∈ heldAll xs, a ≤ M) (h : M = 0) : keyOf xs = none := by
  cases hk : keyOf xs with
  | none => rfl
  | some i =>
    have := (key_max hM hmax).2 i hk
    have h1 := lay_pos i (keyOf_some hk).1
    have h2 := List.length_pos_iff.mpr hx
    have : 0 < takenAt i xs := by unfold takenAt; omega
    omega
end Mine

namespace Mine
theorem pk_step {key : Int} {ws xs : List Int} {j : Nat} {w : Int} (h : ws[j]? = some w) : pk key (ws.drop j) (xs.drop j) = (if j < xs.length then xs.getD j 0 else 0) + 2 ^ w.toNat * pk key (ws.drop (j + 1)) (xs.drop (j + 1)) := by
  obtain ⟨p, rfl⟩ := List.getElem?_eq_some_iff.mp h
  rw [List.drop_eq_getElem_cons p, pk, List.tail_drop]
  congr 1
  by_cases hx : j < xs.length
  · rw [if_pos hx, List.drop_eq_getElem_cons hx]; simp [hx]
  · rw [if_neg hx, List.drop_eq_nil_of_le (by omega)]; rfl
theorem layAt_small (i : Nat) (hi : i < 16) : ∀ x ∈ layAt i, 0 ≤ x ∧ x ≤ 28 := by
  have : ∀ i < 16, ∀ x ∈ layAt i, 0 ≤ x ∧ x ≤ 28 := by decide
  exact this i hi
theorem pow_bits {e : Int} (h0 : 0 ≤ e) (h1 : e ≤ 28) : Builtin.Int.intBits (2 ^ e.toNat) ≤ 64 := by
  have hle : (2 : Int) ^ e.toNat ≤ 2 ^ 28 := by
    have h : (2 : Nat) ^ e.toNat ≤ 2 ^ 28 := Nat.pow_le_pow_right (by decide) (by omega)
    exact_mod_cast h
  have hpos : (0 : Int) < 2 ^ e.toNat := Int.pow_pos (by decide)
  exact PySem.intBits_le_64 (by omega) (by omega)
end Mine
namespace Mine
theorem horner_in {key : Int} {ws xs : List Int} {j : Nat} {z M : Int} (hz : z = (ws.length : Int) - 1 + (j : Int) * -1) (hj : j < ws.length) (hM : M = (min ws.length xs.length : Nat)) (h : z < M) :
    pk key (ws.drop (ws.length - j)) (xs.drop (ws.length - j)) * 2 ^ (ws.getD z.toNat 0).toNat + xs.getD z.toNat 0 = pk key (ws.drop (ws.length - (j + 1))) (xs.drop (ws.length - (j + 1))) := by
  have e1 : ws.length - j = z.toNat + 1 := by omega
  have e2 : ws.length - (j + 1) = z.toNat := by omega
  have hl : z.toNat < ws.length := by omega
  rw [e1, e2, pk_step (j := z.toNat) (w := ws.getD z.toNat 0) (by simp [List.getD, hl]), if_pos (by omega), Int.mul_comm, Int.add_comm]
theorem horner_out {key : Int} {ws xs : List Int} {j : Nat} {z M : Int} (hz : z = (ws.length : Int) - 1 + (j : Int) * -1) (hj : j < ws.length) (hM : M = (min ws.length xs.length : Nat)) (h : ¬ z < M) :
    pk key (ws.drop (ws.length - j)) (xs.drop (ws.length - j)) * 2 ^ (ws.getD z.toNat 0).toNat + 0 = pk key (ws.drop (ws.length - (j + 1))) (xs.drop (ws.length - (j + 1))) := by
  have e1 : ws.length - j = z.toNat + 1 := by omega
  have e2 : ws.length - (j + 1) = z.toNat := by omega
  have hl : z.toNat < ws.length := by omega
  rw [e1, e2, pk_step (j := z.toNat) (w := ws.getD z.toNat 0) (by simp [List.getD, hl]), if_neg (by omega), Int.mul_comm, Int.add_comm]
theorem pk_zero {key : Int} {ws xs : List Int} : pk key (ws.drop (ws.length - 0)) (xs.drop (ws.length - 0)) = key := by
  rw [Nat.sub_zero, List.drop_length]; rfl
end Mine
namespace Mine
def bitsum : List Int → Nat
  | w :: ws => w.toNat + bitsum ws
  | [] => 0
theorem pk_bounds {key : Int} (hk : 0 ≤ key) : ∀ (ws xs : List Int), (∀ x ∈ xs, 0 ≤ x) → fitsB ws xs = true → 0 ≤ pk key ws xs ∧ pk key ws xs < (key + 1) * 2 ^ bitsum ws
  | [], xs, _, _ => by simp [pk, bitsum]; omega
  | w :: ws, xs, hx, hf => by
    have hp : (0 : Int) < 2 ^ w.toNat := Int.pow_pos (by decide)
    have ih : 0 ≤ pk key ws xs.tail ∧ pk key ws xs.tail < (key + 1) * 2 ^ bitsum ws := by
      cases xs with
      | nil => exact pk_bounds hk ws [] (by simp) (by cases ws <;> rfl)
      | cons x xs =>
        simp only [fitsB, Bool.and_eq_true] at hf
        exact pk_bounds hk ws xs (fun y hy => hx y (.tail _ hy)) hf.2
    have hh : 0 ≤ xs.headD 0 ∧ xs.headD 0 < 2 ^ w.toNat := by
      cases xs with
      | nil => exact ⟨Int.le_refl _, hp⟩
      | cons x xs =>
        simp only [fitsB, Bool.and_eq_true, decide_eq_true_eq] at hf
        exact ⟨hx x (.head _), hf.1⟩
    rw [pk, bitsum, Int.pow_add]
    obtain ⟨i1, i2⟩ := ih
    obtain ⟨j1, j2⟩ := hh
    generalize pk key ws xs.tail = P at *
    generalize (2 : Int) ^ w.toNat = A at *
    generalize (2 : Int) ^ bitsum ws = B at *
    have h1 : 0 ≤ A * P := Int.mul_nonneg (Int.le_of_lt hp) i1
    have h2 : A * P + A ≤ (key + 1) * (A * B) := by
      have : A * (P + 1) ≤ A * ((key + 1) * B) := Int.mul_le_mul_of_nonneg_left (by omega) (Int.le_of_lt hp)
      have e1 : A * (P + 1) = A * P + A := by rw [Int.mul_add, Int.mul_one]
      have e2 : A * ((key + 1) * B) = (key + 1) * (A * B) := by rw [← Int.mul_assoc, Int.mul_comm A (key + 1), Int.mul_assoc]
      omega
    exact ⟨by omega, by omega⟩
theorem lay_bits : ∀ i < 16, bitsum (layAt i) = 28 := by decide
theorem valAt_bounds {i : Nat} {xs : List Int} (hi : i < 16) (hx : ∀ x ∈ xs, 0 ≤ x) (hf : fitsB (layAt i) xs = true) : 0 ≤ valAt i xs ∧ valAt i xs < 2 ^ 32 := by
  have h := pk_bounds (key := i) (by omega) (layAt i) xs hx hf
  rw [lay_bits i hi] at h
  refine ⟨h.1, Int.lt_of_lt_of_le h.2 ?_⟩
  have : ((i : Int) + 1) ≤ 16 := by omega
  omega
end Mine

namespace Mine

local macro_rules | `(tactic| walk_at "eval ListComp") => `(tactic| refine Stop.mk ?_)
local macro_rules | `(tactic| walk_at "exec For Name Call cons nil") => `(tactic| refine Stop.mk ?_)
local macro_rules | `(tactic| walk_at "pyIter ref") => `(tactic| refine Stop.mk ?_)
local macro_rules | `(tactic| walk_at "exec While Compare cons nil") => `(tactic| refine Stop.mk ?_)
theorem RowsIn.snoc {led led' : List (Addr × Obj)} (hs : ∀ p ∈ led, p ∈ led') {us : List Value} {rows : List (List Int)} (h : RowsIn led us rows) {a : Addr} {vs : List Value} {ns : List Int} {k : Nat} (hm : (a, PySem.W.listOf vs.toArray k) ∈ led') (hi : IntsAre vs ns) : RowsIn led' (us ++ [.ref a]) (rows ++ [ns]) := by
  induction h with
  | nil => exact .cons hm hi .nil
  | cons m i _ ih => exact .cons (hs _ m) i ih

structure WJ (L W la a : Addr) (obj : Obj) (us : List Value) (n : Nat) (m : Str → Option Value) (nx : List (Addr × Obj)) (xs : List Int) (rows : List (List Int)) (o1 o2 o3 : Obj) (lf : Addr) (wv lv : List Value) (kw kl : Nat) (rest : List (Addr × Obj)) : Prop where
  nx : nx = (L + 1 + 1 + 1, o1) :: (L + 1 + 1, o2) :: (L + 1, o3) :: (W, PySem.W.listOf wv.toArray kw) :: (la, PySem.W.listOf us.toArray 0) :: (lf, PySem.W.listOf lv.toArray kl) :: (a, obj) :: rest
  c1 : ∃ v, o1.data = .cell v
  c2 : ∃ v, o2.data = .cell v
  c3 : o3.data = .cell (some (.ref lf))
  hl : IntsAre lv xs
  r1 : RowsIn rest us layZ
  r2 : RowsIn rest wv rows
  off : OwnOff rest [L + 1 + 1 + 1, L + 1 + 1, L + 1, W, a]
  lfL : lf ≠ L + 1 + 1 + 1 ∧ lf ≠ L + 1 + 1 ∧ lf ≠ L + 1 ∧ lf ≠ W
  m1 : m (Str.ofString "layouts") = some (.ref la)
  m2 : m (Str.ofString "words") = some (.ref W)
  nn : ∀ x ∈ xs, 0 ≤ x ∧ x ≤ 2 ^ 28
  sz : xs.length ≤ 30
  sw : wv.length + xs.length ≤ 30
  fu : xs.length < n

set_option maxHeartbeats 4000000 in
theorem words_spec {w : World} {me : ExcName → Option Value} {mg mb : Str → Option Value} {fr : Option (List Env)} {gd : Option (List Code)} {s : Shared} {Q E : Value → Shared → Prop} {a : Addr} {vs : List Value} {ns : List Int} {k : Nat}
    (X : (Mine.hd.heap_39 w.params).In (s.heap.hide a)) (T : TP me mg mb (s.heap.hide a)) (ha : s.heap.get? a = some (PySem.W.listOf vs.toArray k)) (hi : IntsAre vs ns) (hn : ∀ x ∈ ns, 0 ≤ x ∧ x ≤ 2 ^ 28) (hl : ns.length ≤ 30)
    (h0 : valsS 31 ns = none → ∀ h' tk, s.heap.StaysIn h' → Q .none { s with heap := h', toks := tk })
    (h1 : ∀ vals, valsS 31 ns = some vals → ∀ h' tk W led us kw, s.heap.StaysIn h' → Made s.heap h' ((W, PySem.W.listOf us.toArray kw) :: led) → RowsIn led us (vals.map rowOf) → Q (.ref W) { s with heap := h', toks := tk }) :
    wpAny (model PySem.Challenge.rw_lh0074_01.row.prog w) (amb fr gd 390 390) (call (.ref 200) [.ref a]) Q E s := by
  revert X; k_fill; intro X
  refine wpAny_call ?_
  k_dflt (refine' enterC (g := s.heap.hide a) (news := [(a, PySem.W.listOf vs.toArray k)]) (binds := [(Str.ofString "numbers", .ref a)]) ?k1 ?g1 ?g2 ?g3 ?k2 ?k3 ?k4 ?k5 ?k6 ?k7 ?k8 ?_ ?c1 ?c2 ?c3; (case k1 => assumption); (case g1 => exact fun _ _ e => Heap.of_hide e); (case g2 => exact Nat.le_of_eq (Heap.hide_size _ _)); (case g3 => (intro p hp; rw [List.mem_singleton.mp hp]; exact ⟨ha, Heap.hide_self _ _⟩)); (case k2 => exact T.nolimit); (case k3 => exact (by decide : (390 : Nat) < 1000)); (case k4 => k_is); (case k5 => k_is); (case k6 => exact BindsTo.of_eq rfl); (case k7 => exact rfl); (case k8 => decide +kernel); (case c1 => exact rfl); (case c2 => exact rfl); (case c3 => exact rfl))
  intro L h₁ tk cells F N Y hlt hst hL
  k_cells Y
  simp only [List.cons_append, List.nil_append] at N
  replace F : Fr (s.heap.hide a) L h₁ (fun y => if y = Str.ofString "numbers" then some (.ref a) else none) := F
  (try dsimp only)
  (try k_fold)
  k_steps
  refine wpAny_amb (d := 400) (u := 400) rfl (by exact (by decide : 391 ≤ 400)) (by exact (by decide : 393 ≤ 400)) ?_
  refine lay_spec (X.keeps F.keep) (T.keeps F.keep) fun h₂ tk₂ la us led hk₂ M₂ R₂ => ?_
  have hoff := made_off N M₂
  have haL := ltN (hlt _ (.head _))
  obtain ⟨rest, hrest⟩ : ∃ rest, rest = led := ⟨_, rfl⟩
  have N2 := news_made F N hk₂ M₂
  rename_i o1 o2 o3 d1 d2 d3
  replace N : News (s.heap.hide a) L h₂ ((L + 1 + 1 + 1, o1) :: (L + 1 + 1, o2) :: (L + 1, o3) :: (la, PySem.W.listOf us.toArray 0) :: (a, PySem.W.listOf vs.toArray k) :: rest) := fun p hp => N2 p (by subst hrest; simp only [List.mem_append, List.mem_cons, List.not_mem_nil, or_false] at hp ⊢; grind)
  have la1 : la ≠ L + 1 + 1 + 1 := hoff _ (.head _) _ (.head _)
  have la2 : la ≠ L + 1 + 1 := hoff _ (.head _) _ (.tail _ (.head _))
  have la3 : la ≠ L + 1 := hoff _ (.head _) _ (.tail _ (.tail _ (.head _)))
  have la4 : la ≠ a := hoff _ (.head _) _ (.tail _ (.tail _ (.tail _ (.head _))))
  have hR : OwnOff rest [L + 1 + 1 + 1, L + 1 + 1, L + 1, a] := by
    subst hrest
    intro p hp b hb
    simp only [List.mem_cons, List.not_mem_nil, or_false] at hb
    rcases hb with rfl | rfl | rfl | rfl
    · exact hoff p (.tail _ hp) _ (.head _)
    · exact hoff p (.tail _ hp) _ (.tail _ (.head _))
    · exact hoff p (.tail _ hp) _ (.tail _ (.tail _ (.head _)))
    · exact hoff p (.tail _ hp) _ (.tail _ (.tail _ (.tail _ (.head _))))
  replace R₂ : RowsIn rest us layZ := by subst hrest; exact R₂
  replace F := F.keeps hk₂
  replace d1 : ∃ v, o1.data = .cell v := ⟨_, d1⟩
  replace d2 : ∃ v, o2.data = .cell v := ⟨_, d2⟩
  have a1 : a ≠ L + 1 + 1 + 1 := by refine neN ?_; dsimp only at haL ⊢; omega
  have a2 : a ≠ L + 1 + 1 := by refine neN ?_; dsimp only at haL ⊢; omega
  have a3 : a ≠ L + 1 := by refine neN ?_; dsimp only at haL ⊢; omega
  clear hoff N2 hk₂ M₂ hrest
  dsimp only
  k_steps
  rename_i W _ l1 _ _ o4 F4 N4 d4
  refine Stop.go ?_
  obtain ⟨lW1, lW2, lW3, lW4, lW5, lW6⟩ := l1
  refine While_inv2 (fun n m nx => ∃ xs rows o1 o2 o3 lf wv lv kw kl rest, WJ L W la a (PySem.W.listOf vs.toArray k) us n m nx xs rows o1 o2 o3 lf wv lv kw kl rest ∧ (valsS 31 ns).map (·.map rowOf) = (valsS n xs).map (fun vs => rows ++ vs.map rowOf)) (n₀ := 31) (news := (L + 1 + 1 + 1, o1) :: (L + 1 + 1, o2) :: (L + 1, o4) :: (W, PySem.W.listOf ([] : List Value).toArray 0) :: (la, PySem.W.listOf us.toArray 0) :: (a, PySem.W.listOf vs.toArray k) :: (a, PySem.W.listOf vs.toArray k) :: rest) F4 ?_ ?_ ?_
  · intro p hp
    refine N4 p ?_
    simp only [List.mem_cons] at hp ⊢
    grind
  · refine ⟨ns, [], o1, o2, o4, a, [], vs, 0, k, rest, ⟨rfl, d1, d2, d4, hi, R₂, .nil, ?_, ⟨a1, a2, a3, ?_⟩, rfl, rfl, hn, hl, (by simpa using hl), Nat.lt_succ_of_le hl⟩, by simp⟩
    · intro p hp b hb
      simp only [List.mem_cons, List.not_mem_nil, or_false] at hb
      rcases hb with rfl | rfl | rfl | rfl | rfl
      · exact hR p hp _ (.head _)
      · exact hR p hp _ (.tail _ (.head _))
      · exact hR p hp _ (.tail _ (.tail _ (.head _)))
      · exact allLt_ne lW6 p hp
      · exact hR p hp _ (.tail _ (.tail _ (.tail _ (.head _))))
    · refine neN ?_; omega
  · rintro n m₁ nx h₅ tk₅ F₅ N₅ ⟨xs, rows, o1, o2, o3, lf, wv, lv, kw, kl, rest, J, hv⟩
    obtain ⟨rfl, ⟨v1, c1⟩, ⟨v2, c2⟩, c3, hlv, r1, r2, off, ⟨lf1, lf2, lf3, lf4⟩, m1, m2, nn, sz, sw, fu⟩ := J
    clear F4 N4
    replace F₅ := fr_know (fr_know F₅ _ _ m1) (Str.ofString "words") (.ref W) m2
    k_steps
    · rename_i T6 h₆ F6 N6 l6 hx6
      obtain rfl : xs = [] := of_decide_eq_true hx6
      obtain ⟨vals, hvals⟩ : ∃ vals, valsS 31 ns = some vals := by
        cases q : valsS 31 ns with
        | some vals => exact ⟨vals, rfl⟩
        | none =>
          rw [q] at hv
          cases n with
          | zero => exact absurd fu (Nat.not_lt_zero _)
          | succ n => simp [valsS] at hv
      have hrows : vals.map rowOf = rows := by
        rw [hvals] at hv
        cases n with
        | zero => exact absurd fu (Nat.not_lt_zero _)
        | succ n => simpa [valsS] using hv
      show Q (.ref W) _
      refine h1 vals hvals h₆ _ W rest wv kw (stays_unhide F6.keep ha (N6 (a, PySem.W.listOf vs.toArray k) (by k_mem)).1) (fun p hp => ?_) (hrows ▸ r2)
      have hpm : p ∈ (W, PySem.W.listOf wv.toArray kw) :: rest := hp
      have hpa : p.1 ≠ a := by
        rcases List.mem_cons.mp hpm with rfl | hp
        · exact fun e => by have := lW5; rw [← e] at this; exact Nat.lt_irrefl _ this
        · exact off p hp a (by simp)
      have := N6 p (by simp only [List.mem_cons] at hpm ⊢; grind)
      exact ⟨this.1, (Heap.hide_ne s.heap hpa) ▸ this.2.2⟩
    · rename_i T6 h₆ F6 N6 l6 hx6
      have hx : xs ≠ [] := of_decide_eq_false hx6
      refine Stop.go (wpAny_amb (d := 400) (u := 400) rfl (by exact (by decide : 391 ≤ 400)) (by exact (by decide : 393 ≤ 400)) ?_)
      refine counts_eval (cl := [(Str.ofString "left", L + 1)]) (la := la) (lf := lf) (us := us) (lv := lv) (rest := rest) X T F6 N6 rfl (by k_mem) (by k_mem) (by k_mem) (fun p hp => by simp [hp]) r1 hlv rfl c3 rfl rfl rfl rfl rfl (fun _ => rfl) (fun _ => rfl) (fun _ => rfl) (fun _ => rfl) fun h₇ D ys kk tk₇ F7 N7 hys hDn => ?_
      have D1 := neN (hDn (L + 1 + 1 + 1, o1) (by simp))
      have D2 := neN (hDn (L + 1 + 1, o2) (by simp))
      have D3 := neN (hDn (L + 1, o3) (by simp))
      have D4 := neN (hDn (W, PySem.W.listOf wv.toArray kw) (by simp))
      replace N7 : News (s.heap.hide a) L h₇ ((L + 1 + 1 + 1, o1) :: (L + 1 + 1, o2) :: (L + 1, o3) :: (W, PySem.W.listOf wv.toArray kw) :: (la, PySem.W.listOf us.toArray 0) :: (lf, PySem.W.listOf lv.toArray kl) :: (a, PySem.W.listOf vs.toArray k) :: (D, PySem.W.listOf ys.toArray kk) :: rest) := fun p hp => N7 p (by simp only [List.mem_cons] at hp ⊢; grind)
      clear F6 N6 hDn
      dsimp only at D1 D2 D3 D4
      have hpos : 0 < (heldAll xs).length := by simp [heldAll, layZ]
      k_steps
      · rename_i h₈ oc dc h₉ M tM tk₉ hM hmax h₁₀ oh F8 N8 dh tk₁₀ hM0
        have hnone : valsS 31 ns = none := by
          rw [valsS_none hx fu (key_none hx hM hmax hM0)] at hv
          cases q : valsS 31 ns with
          | none => rfl
          | some _ => rw [q] at hv; cases hv
        show Q .none _
        exact h0 hnone h₁₀ _ (stays_unhide F8.keep ha (N8 (a, PySem.W.listOf vs.toArray k) (by k_mem)).1)
      · rename_i h₈ oc dc h₉ M tM tk₉ hM hmax h₁₀ oh F8 N8 dh tk₁₀ hM0
        refine Stop.go (wpAny_amb (d := 400) (u := 400) rfl (by exact (by decide : 391 ≤ 400)) (by exact (by decide : 393 ≤ 400)) ?_)
        refine places_eval (cl := [(Str.ofString "held", L + 1 + 1 + 1), (Str.ofString "counts", L + 1 + 1)]) X T F8 N8 (D := D) (ys := ys) (by k_mem) (by k_mem) (by k_mem) hys (heldAll_len xs) rfl rfl dc dh rfl rfl rfl rfl rfl rfl (fun _ => rfl) (fun _ => rfl) (fun _ => rfl) (fun _ => rfl) fun h₁₂ D' zs kk' tk₁₂ F9 N9 hzs hDn' => ?_
        have hMpos : ∃ i : Nat, i < 16 ∧ (heldAll xs).getD i 0 = M := mem_heldAll.mp hM
        have hpos' : 0 < (placesOf (heldAll xs) M 16).length := by
          obtain ⟨i, hi16, he⟩ := hMpos
          refine List.length_pos_of_mem (a := Int.ofNat i) (List.mem_map.mpr ⟨i, List.mem_filter.mpr ⟨List.mem_range.mpr hi16, ?_⟩, rfl⟩)
          rw [he]; simp
        clear hMpos
        k_steps
        rename_i h₁₃ K tK k13 hK hKmin h₁₄ F10 N10
        obtain ⟨i, hki, i16, rfl, hMi, htp⟩ := key_min hx hM hmax hM0 hK hKmin
        obtain ⟨wa, wds, kwd, hwa, hwm, hwi⟩ := r1.get (show layZ[i]? = some (layAt i) by have : i < layZ.length := by { rw [layZ_len]; exact i16 }; simp [layAt, List.getD, this])
        have o1' := off _ hwm (L + 1 + 1 + 1) (by simp)
        have o2' := off _ hwm (L + 1 + 1) (by simp)
        have o3' := off _ hwm (L + 1) (by simp)
        have o4' := off _ hwm W (by simp)
        dsimp only at o1' o2' o3' o4'
        replace N10 : News (s.heap.hide a) L h₁₄ ((L + 1 + 1 + 1, oh) :: (L + 1 + 1, oc) :: (L + 1, o3) :: (W, PySem.W.listOf wv.toArray kw) :: (la, PySem.W.listOf us.toArray 0) :: (lf, PySem.W.listOf lv.toArray kl) :: (a, PySem.W.listOf vs.toArray k) :: (wa, PySem.W.listOf wds.toArray kwd) :: rest) := fun p hp => N10 p (by simp only [List.mem_cons] at hp ⊢; grind)
        refine tail_any (T := "list") ⟨_, (N10 (la, PySem.W.listOf us.toArray 0) (by k_mem)).1, rfl⟩ slot_list_getitem.lookup (wpAny_getItem_list (News.isList N10 (by k_mem)) (by omega) (by omega) (by simpa using hwa) ?_) (by with_unfolding_all rfl)
        have hwl : wds.length = (layAt i).length := hwi.length
        have hw28 : (layAt i).length ≤ 28 := lay_falls 0 (by decide) i i16 (Nat.zero_le _)
        k_steps
        refine Stop.go (For_invV (s.heap.hide a) rfl rfl ?_)
        k_steps
        rename IsRange _ _ _ _ _ _ _ _ => hR
        have hlay := layAt_small i i16
        refine Stop.go (for_range (n := (layAt i).length) (fun j m => (∃ t, m (Str.ofString "value") = some (.int (pk i ((layAt i).drop ((layAt i).length - j)) (xs.drop ((layAt i).length - j))) t)) ∧ m (Str.ofString "widths") = some (.ref wa) ∧ m (Str.ofString "words") = some (.ref W) ∧ m (Str.ofString "layouts") = some (.ref la)) rfl hR (small_down _ (by omega)) (rangeSize_down _) (by assumption) (by assumption) ⟨⟨tK, ?_⟩, rfl, rfl, rfl⟩ ?_ ?_)
        · exact congrArg (fun v => some (Value.int v tK)) pk_zero.symm
        · rintro j tj m₂ h₂₀ tk₂₀ own hj ⟨⟨tv, mv⟩, mw, mwo, mla⟩ F₂₀ N₂₀
          obtain ⟨z, hz⟩ : ∃ z : Int, z = ((layAt i).length : Int) - 1 + (j : Int) * -1 := ⟨_, rfl⟩
          rw [← hz] at F₂₀
          replace F₂₀ := fr_know (fr_know F₂₀ (Str.ofString "value") _ mv) (Str.ofString "widths") (.ref wa) mw
          have z0 : 0 ≤ z := by omega
          have z1 : z < ((layAt i).length : Int) := by omega
          have hzn : z.toNat < (layAt i).length := by omega
          have hgz := hlay _ (List.getElem_mem hzn)
          have hgd : (layAt i).getD z.toNat 0 = (layAt i)[z.toNat] := by simp [List.getD, hzn]
          rw [← hgd] at hgz
          obtain ⟨b1, b2⟩ := hgz
          have b3 := pow_bits b1 b2
          have hMx : M ≤ xs.length := by rw [hMi]; unfold takenAt; omega
          have N20 : News (s.heap.hide a) L h₂₀ ((L + 1 + 1 + 1, oh) :: (L + 1 + 1, oc) :: (L + 1, o3) :: (W, PySem.W.listOf wv.toArray kw) :: (la, PySem.W.listOf us.toArray 0) :: (lf, PySem.W.listOf lv.toArray kl) :: (a, PySem.W.listOf vs.toArray k) :: (wa, PySem.W.listOf wds.toArray kwd) :: (own ++ rest)) := fun p hp => N₂₀ p (by simp only [List.mem_cons, List.mem_append] at hp ⊢; grind)
          k_steps
          · rename (z < M) => hin
            rename Fr _ _ _ _ => F21
            rename News _ _ _ _ => N21
            refine ⟨rfl, _, _, _, rfl, F21, fun p hp => N21 p (by simp only [List.mem_cons, List.mem_append] at hp ⊢; grind), ?_, rfl, mwo, mla⟩
            rw [← horner_in (key := i) (ws := layAt i) (xs := xs) hz hj hMi hin]; exact ⟨_, rfl⟩
          · rename (¬ _) => hin
            rename Fr _ _ _ _ => F21
            rename News _ _ _ _ => N21
            refine ⟨rfl, _, _, _, rfl, F21, fun p hp => N21 p (by simp only [List.mem_cons, List.mem_append] at hp ⊢; grind), ?_, rfl, mwo, mla⟩
            rw [← horner_out (key := i) (ws := layAt i) (xs := xs) hz hj hMi hin]; exact ⟨_, rfl⟩
        · rintro m₂ h₂₀ tk₂₀ ⟨⟨tv, mv⟩, mw, mwo, mla⟩ F₂₀ N₂₀
          obtain ⟨v, hvv⟩ : ∃ v, v = valAt i xs := ⟨_, rfl⟩
          simp only [Nat.sub_self, List.drop_zero] at mv
          rw [show pk (↑i) (layAt i) xs = v from hvv.symm] at mv
          obtain ⟨hv0, hv1⟩ := hvv ▸ valAt_bounds i16 (fun x hx => (nn x hx).1) (keyOf_some hki).2.1
          replace F₂₀ := fr_know (fr_know (fr_know F₂₀ (Str.ofString "value") _ mv) (Str.ofString "words") (.ref W) mwo) (Str.ofString "layouts") (.ref la) mla
          have hMx : M ≤ xs.length := by rw [hMi]; unfold takenAt; omega
          have hM1 : 0 < M := by omega
          have w1 : la ≠ W := by refine neN ?_; omega
          have w2 : a ≠ W := by refine neN ?_; omega
          have hEnd : ∀ (hh : Heap) (m' : Str → Option Value) (o' : Obj) (l D2 : Addr) (ws' : List Value) (t1 t2 t3 t4 : Tok), Fr (s.heap.hide a) L hh m' →
              News (s.heap.hide a) L hh ((D2, PySem.W.listOf ws'.toArray 0) :: (l, PySem.W.listOf #[Value.int (v.fmod 256) t1, Value.int ((v.fdiv 256).fmod 256) t2, Value.int ((v.fdiv 65536).fmod 256) t3, Value.int (v.fdiv 16777216) t4] 0) :: (L + 1 + 1 + 1, oh) :: (L + 1 + 1, oc) :: (L + 1, o') :: (W, PySem.W.listOf (wv.toArray.push (.ref l)) (kw + 1)) :: (la, PySem.W.listOf us.toArray 0) :: (lf, PySem.W.listOf lv.toArray kl) :: (a, PySem.W.listOf vs.toArray k) :: (wa, PySem.W.listOf wds.toArray kwd) :: rest) →
              m' (Str.ofString "layouts") = some (.ref la) → m' (Str.ofString "words") = some (.ref W) → o'.data = .cell (some (.ref D2)) → IntsAre ws' (List.drop M.toNat xs) →
              (L + 1 + 1 + 1 < l ∧ L + 1 + 1 < l ∧ L + 1 < l ∧ W < l ∧ la < l ∧ lf < l ∧ a < l ∧ wa < l ∧ AllLt l rest) → (L + 1 + 1 + 1 < D2 ∧ L + 1 + 1 < D2 ∧ L + 1 < D2 ∧ W < D2) →
              ∃ nx, News (s.heap.hide a) L hh nx ∧ ∃ xs rows o1 o2 o3 lf wv' lv kw' kl rest', WJ L W la a (PySem.W.listOf vs.toArray k) us (n - 1) m' nx xs rows o1 o2 o3 lf wv' lv kw' kl rest' ∧ (valsS 31 ns).map (·.map rowOf) = (valsS (n - 1) xs).map (fun vs => rows ++ vs.map rowOf) := by
            intro hh m' o' l D2 ws' t1 t2 t3 t4 Fx Nx ml mw do' hws' ⟨l1, l2, l3, l4, l5, l6, l7, l8, l9⟩ ⟨d1, d2, d3, d4⟩
            refine ⟨((L + 1 + 1 + 1, oh) :: (L + 1 + 1, oc) :: (L + 1, o') :: (W, PySem.W.listOf (wv.toArray.push (.ref l)) (kw + 1)) :: (la, PySem.W.listOf us.toArray 0) :: (D2, PySem.W.listOf ws'.toArray 0) :: (a, PySem.W.listOf vs.toArray k) :: (l, PySem.W.listOf #[Value.int (v.fmod 256) t1, Value.int ((v.fdiv 256).fmod 256) t2, Value.int ((v.fdiv 65536).fmod 256) t3, Value.int (v.fdiv 16777216) t4] 0) :: rest), fun p hp => Nx p (by simp only [List.mem_cons] at hp ⊢; grind), ?_⟩
            refine ⟨xs.drop M.toNat, rows ++ [rowOf v], oh, oc, o', D2, wv ++ [.ref l], ws', kw + 1, 0, ((l, PySem.W.listOf #[Value.int (v.fmod 256) t1, Value.int ((v.fdiv 256).fmod 256) t2, Value.int ((v.fdiv 65536).fmod 256) t3, Value.int (v.fdiv 16777216) t4] 0) :: rest), ⟨?_, ⟨_, dh⟩, ⟨_, dc⟩, do', hws', r1.mono (fun p hp => .tail _ hp), ?_, ?_, ⟨?_, ?_, ?_, ?_⟩, ml, mw, ?_, ?_, ?_, ?_⟩, ?_⟩
            · rw [List.push_toArray]
            · refine RowsIn.snoc (fun p hp => .tail _ hp) r2 (vs := [Value.int (v.fmod 256) t1, Value.int ((v.fdiv 256).fmod 256) t2, Value.int ((v.fdiv 65536).fmod 256) t3, Value.int (v.fdiv 16777216) t4]) (k := 0) (.head _) ?_
              exact .cons _ _ (.cons _ _ (.cons _ _ (.cons _ _ .nil)))
            · intro p hp b hb
              rcases List.mem_cons.mp hp with rfl | hp
              · simp only [List.mem_cons, List.not_mem_nil, or_false] at hb
                rcases hb with rfl | rfl | rfl | rfl | rfl
                · exact Nat.ne_of_gt l1
                · exact Nat.ne_of_gt l2
                · exact Nat.ne_of_gt l3
                · exact Nat.ne_of_gt l4
                · exact Nat.ne_of_gt l7
              · exact off p hp b hb
            · exact Nat.ne_of_gt d1
            · exact Nat.ne_of_gt d2
            · exact Nat.ne_of_gt d3
            · exact Nat.ne_of_gt d4
            · exact fun x hx => nn x (List.mem_of_mem_drop hx)
            · rw [List.length_drop]; omega
            · rw [List.length_drop, List.length_append, List.length_singleton]; omega
            · rw [List.length_drop]; omega
            · rw [hv]
              obtain ⟨n', rfl⟩ : ∃ n', n = n' + 1 := ⟨n - 1, by omega⟩
              rw [valsS_some hx hki, Option.map_map, hMi, ← hvv]
              simp [Function.comp_def]
          dsimp only
          clear hR hv h0 h1 hn hM hmax hK hKmin hki hzs hys hpos hpos' hDn' hvv hlay hMi htp hwa hwm hwi r1 r2 nn
          k_steps
          rename_i hI3 hC3 hLen ltD h3 o3' F3 N3 d3
          obtain ⟨nx, Nx, hnx⟩ := hEnd _ _ _ _ _ _ _ _ _ _ F3 N3 rfl rfl d3 hI3 (by assumption) ⟨ltD.2.1, ltD.2.2.1, ltD.2.2.2.1, ltD.2.2.2.2.1⟩
          exact ⟨_, _, _, nx, n - 1, rfl, F3, Nx, by omega, hnx⟩
end Mine

namespace Mine
def offs (ws : List Int) (j : Nat) : Nat := bitsum (ws.take j)
def lowS (ws xs : List Int) : Nat → Int
  | 0 => 0
  | j + 1 => lowS ws xs j + xs.getD j 0 * 2 ^ offs ws j
theorem bitsum_append : ∀ (l r : List Int), bitsum (l ++ r) = bitsum l + bitsum r
  | [], r => by simp [bitsum]
  | w :: l, r => by simp [bitsum, bitsum_append l r, Nat.add_assoc]
theorem offs_succ {ws : List Int} {j : Nat} (h : j < ws.length) : offs ws (j + 1) = offs ws j + (ws.getD j 0).toNat := by
  unfold offs
  rw [List.take_add_one, bitsum_append]
  simp [List.getD, h, bitsum]
theorem offs_le (ws : List Int) (j : Nat) : offs ws j ≤ bitsum ws := by
  conv => rhs; rw [← List.take_append_drop j ws, bitsum_append]
  exact Nat.le_add_right _ _
theorem offs_drop (ws : List Int) (j : Nat) : offs ws j + bitsum (ws.drop j) = bitsum ws := by
  conv => rhs; rw [← List.take_append_drop j ws, bitsum_append]
  rfl
theorem pk_nil (key : Int) : ∀ ws : List Int, pk key ws [] = 2 ^ bitsum ws * key
  | [] => by simp [pk, bitsum]
  | w :: ws => by simp [pk, bitsum, pk_nil key ws, Int.pow_add, Int.mul_assoc]
theorem pk_low {key : Int} {ws xs : List Int} : ∀ {j : Nat}, j ≤ ws.length → j ≤ xs.length → pk key ws xs = lowS ws xs j + 2 ^ offs ws j * pk key (ws.drop j) (xs.drop j)
  | 0, _, _ => by simp [lowS, offs, bitsum]
  | j + 1, h, h' => by
    rw [pk_low (j := j) (by omega) (by omega), pk_step (w := ws.getD j 0) (by have : j < ws.length := by { omega }; simp [List.getD, this]), if_pos (by omega), lowS, offs_succ (by omega)]
    rw [Int.mul_add, Int.pow_add]
    rw [Int.mul_comm (2 ^ offs ws j) (xs.getD j 0), Int.mul_assoc]
    omega
theorem pk_end {key : Int} {ws xs : List Int} {j : Nat} (h : j = min ws.length xs.length) : pk key ws xs = lowS ws xs j + 2 ^ bitsum ws * key := by
  rw [pk_low (j := j) (by omega) (by omega)]
  have : pk key (ws.drop j) (xs.drop j) = 2 ^ bitsum (ws.drop j) * key := by
    by_cases q : j = xs.length
    · rw [List.drop_eq_nil_of_le (as := xs) (by omega), pk_nil]
    · rw [List.drop_eq_nil_of_le (as := ws) (by omega)]; simp [pk, bitsum]
  rw [this, ← Int.mul_assoc, ← Int.pow_add, offs_drop]
theorem lowS_bounds {ws xs : List Int} : ∀ {j : Nat}, j ≤ ws.length → j ≤ xs.length → (∀ x ∈ xs, 0 ≤ x) → (∀ t < j, xs.getD t 0 < 2 ^ (ws.getD t 0).toNat) → 0 ≤ lowS ws xs j ∧ lowS ws xs j < 2 ^ offs ws j
  | 0, _, _, _, _ => by simp [lowS, offs, bitsum]
  | j + 1, h, h', hn, hf => by
    obtain ⟨i0, i1⟩ := lowS_bounds (j := j) (by omega) (by omega) hn fun t ht => hf t (by omega)
    have h1 := hf j (by omega)
    have h0 : 0 ≤ xs.getD j 0 := by
      have : j < xs.length := by omega
      simp only [List.getD, List.getElem?_eq_getElem this, Option.getD_some]
      exact hn _ (List.getElem_mem this)
    rw [lowS, offs_succ (by omega), Int.pow_add]
    generalize xs.getD j 0 = x at *
    generalize (2 : Int) ^ (ws.getD j 0).toNat = W at *
    have hB : (0 : Int) < 2 ^ offs ws j := by
      have : (0 : Int) < 2 := by decide
      exact Int.pow_pos this
    generalize (2 : Int) ^ offs ws j = B at *
    have e1 : 0 ≤ x * B := Int.mul_nonneg h0 (by omega)
    have e2 : x * B ≤ (W - 1) * B := Int.mul_le_mul_of_nonneg_right (by omega) (by omega)
    rw [Int.sub_mul] at e2
    rw [Int.mul_comm B W]
    omega
theorem fitsB_at : ∀ {ws xs : List Int}, fitsB ws xs = true ↔ ∀ t, t < min ws.length xs.length → xs.getD t 0 < 2 ^ (ws.getD t 0).toNat
  | [], xs => by simp [fitsB]
  | w :: ws, [] => by simp [fitsB]
  | w :: ws, x :: xs => by
    rw [fitsB, Bool.and_eq_true, decide_eq_true_iff, fitsB_at]
    constructor
    · rintro ⟨h0, h⟩ t ht
      cases t with
      | zero => simpa using h0
      | succ t => simpa using h t (by simp at ht; omega)
    · intro h
      refine ⟨by simpa using h 0 (by simp), fun t ht => by simpa using h (t + 1) (by simp; omega)⟩
theorem nat_or_disj {a x b w n : Nat} (hl : a % 2 ^ n < 2 ^ b) (hx : x < 2 ^ w) (hb : b + w ≤ n) : a ||| (x * 2 ^ b) = a + x * 2 ^ b := by
  have e : a = 2 ^ n * (a / 2 ^ n) + a % 2 ^ n := (Nat.div_add_mod a (2 ^ n)).symm
  generalize a / 2 ^ n = q at e
  generalize a % 2 ^ n = r at e hl
  subst e
  have hxb : x * 2 ^ b < 2 ^ n := by
    calc x * 2 ^ b < 2 ^ w * 2 ^ b := Nat.mul_lt_mul_of_pos_right hx (Nat.two_pow_pos b)
      _ = 2 ^ (w + b) := (Nat.pow_add 2 w b).symm
      _ ≤ 2 ^ n := Nat.pow_le_pow_right (by decide) (by omega)
  have hr : r < 2 ^ n := Nat.lt_of_lt_of_le hl (Nat.pow_le_pow_right (by decide) (by omega))
  have o1 : r ||| x * 2 ^ b = x * 2 ^ b + r := by
    rw [Nat.or_comm, Nat.mul_comm x, ← Nat.two_pow_add_eq_or_of_lt hl]
  have o2 : r ||| x * 2 ^ b < 2 ^ n := Nat.or_lt_two_pow hr hxb
  rw [Nat.two_pow_add_eq_or_of_lt hr, Nat.or_assoc, ← Nat.two_pow_add_eq_or_of_lt o2, o1]
  rw [← Nat.two_pow_add_eq_or_of_lt hr]
  omega
theorem bitOr_nat (a b : Nat) : Builtin.bitOr (a : Int) (b : Int) = ((a ||| b : Nat) : Int) := by
  have h1 : decide ((0 : Int) ≤ Builtin.bitNot a) = false := by simp [Builtin.bitNot]; omega
  have h2 : decide ((0 : Int) ≤ Builtin.bitNot b) = false := by simp [Builtin.bitNot]; omega
  have e : ∀ n : Nat, (Builtin.bitNot (Builtin.bitNot (n : Int))) = n := fun n => by simp [Builtin.bitNot]; omega
  unfold Builtin.bitOr Builtin.bitAnd
  rw [h1, h2]
  simp only [e, Int.toNat_natCast]
theorem bitOr_disj {a x : Int} {b w n : Nat} (ha : 0 ≤ a) (hx0 : 0 ≤ x) (hl : a % 2 ^ n < 2 ^ b) (hx : x < 2 ^ w) (hb : b + w ≤ n) : Builtin.bitOr a (x * 2 ^ b) = a + x * 2 ^ b := by
  obtain ⟨a, rfl⟩ := Int.eq_ofNat_of_zero_le ha
  obtain ⟨x, rfl⟩ := Int.eq_ofNat_of_zero_le hx0
  have e : ((x : Int) * 2 ^ b) = ((x * 2 ^ b : Nat) : Int) := by push_cast; rfl
  rw [e]
  have h1 : a % 2 ^ n < 2 ^ b := by exact_mod_cast hl
  have h2 : x < 2 ^ w := by exact_mod_cast hx
  rw [bitOr_nat, nat_or_disj h1 h2 hb]
  rfl
theorem comp_step {i j : Nat} {xs : List Int} {x : Int} {b : Nat} (i16 : i < 16) (hj : j < takenAt i xs) (hn : ∀ x ∈ xs, 0 ≤ x) (hf : ∀ t < j, xs.getD t 0 < 2 ^ ((layAt i).getD t 0).toNat) (hx : x = xs.getD j 0) (hlt : x < 2 ^ ((layAt i).getD j 0).toNat) (hb : b = offs (layAt i) j) :
    Builtin.bitOr ((i : Int) * 2 ^ 28 + lowS (layAt i) xs j) (x * 2 ^ b) = (i : Int) * 2 ^ 28 + lowS (layAt i) xs (j + 1) := by
  have hj1 : j < (layAt i).length := by unfold takenAt at hj; omega
  have hj2 : j < xs.length := by unfold takenAt at hj; omega
  obtain ⟨l0, l1⟩ := lowS_bounds (ws := layAt i) (xs := xs) (j := j) (by omega) (by omega) hn hf
  have ho := offs_le (layAt i) (j + 1)
  rw [lay_bits i i16, offs_succ hj1] at ho
  have hx0 : 0 ≤ x := by
    rw [hx]
    simp only [List.getD, List.getElem?_eq_getElem hj2, Option.getD_some]
    exact hn _ (List.getElem_mem hj2)
  have hp : (2 : Int) ^ offs (layAt i) j ≤ 2 ^ 28 := by
    have := Nat.pow_le_pow_right (n := 2) (by decide) (show offs (layAt i) j ≤ 28 by omega)
    exact_mod_cast this
  subst hb
  rw [bitOr_disj (n := 28) (w := ((layAt i).getD j 0).toNat) (by omega) hx0 ?_ hlt (by omega), lowS, hx]
  · omega
  · rw [Int.add_comm, Int.add_mul_emod_self_right, Int.emod_eq_of_lt l0 (by omega)]; exact l1
theorem comp_full {i : Nat} {xs : List Int} (i16 : i < 16) (hf : ∀ t < takenAt i xs, xs.getD t 0 < 2 ^ ((layAt i).getD t 0).toNat) : fitsB (layAt i) xs = true ∧ (i : Int) * 2 ^ 28 + lowS (layAt i) xs (takenAt i xs) = valAt i xs := by
  refine ⟨fitsB_at.mpr hf, ?_⟩
  unfold valAt
  rw [pk_end (j := takenAt i xs) rfl, lay_bits i i16, Int.mul_comm (2 ^ 28)]
  omega
theorem comp_bad {i j : Nat} {xs : List Int} (hj : j < takenAt i xs) (h : ¬ xs.getD j 0 < 2 ^ ((layAt i).getD j 0).toNat) : fitsB (layAt i) xs = false := by
  cases q : fitsB (layAt i) xs with
  | false => rfl
  | true => exact absurd (fitsB_at.mp q j hj) h
theorem keyOf_first {i : Nat} {xs : List Int} (i16 : i < 16) (hf : fitsB (layAt i) xs = true) (hbad : ∀ j < i, fitsB (layAt j) xs = false) : keyOf xs = some i := by
  unfold keyOf
  rw [List.find?_range_eq_some]
  exact ⟨hf, List.mem_range.mpr i16, fun j hj => by simp [hbad j hj]⟩
theorem keyOf_not {xs : List Int} (hbad : ∀ j < 16, fitsB (layAt j) xs = false) : keyOf xs = none := by
  unfold keyOf
  rw [List.find?_eq_none]
  intro x hx
  simp [hbad x (List.mem_range.mp hx)]
theorem bitAnd_nat (a b : Nat) : Builtin.bitAnd (a : Int) (b : Int) = ((a &&& b : Nat) : Int) := by
  have h1 : decide ((0 : Int) ≤ (a : Int)) = true := by simp
  have h2 : decide ((0 : Int) ≤ (b : Int)) = true := by simp
  unfold Builtin.bitAnd
  rw [h1, h2]
  simp only [Int.toNat_natCast]
theorem bitAnd_mask {x : Int} (hx : 0 ≤ x) (k : Nat) : Builtin.bitAnd x (2 ^ k - 1) = x % 2 ^ k := by
  obtain ⟨x, rfl⟩ := Int.eq_ofNat_of_zero_le hx
  have e : ((2 : Int) ^ k - 1) = ((2 ^ k - 1 : Nat) : Int) := by
    have h1 : 1 ≤ 2 ^ k := Nat.one_le_two_pow
    have h2 : ((2 ^ k : Nat) : Int) = (2 : Int) ^ k := by push_cast; rfl
    rw [← h2]; omega
  rw [e, bitAnd_nat, Nat.and_two_pow_sub_one_eq_mod]
  push_cast; rfl
theorem mask_of {w : Int} (h0 : 0 ≤ w) (h1 : w ≤ 28) : (4294967295 : Int).fdiv (2 ^ (32 - w).toNat) = 2 ^ w.toNat - 1 := by
  obtain ⟨n, rfl⟩ := Int.eq_ofNat_of_zero_le h0
  have hn : n ≤ 28 := by omega
  have : ∀ n : Nat, n < 29 → (4294967295 : Int).fdiv (2 ^ (32 - (n : Int)).toNat) = 2 ^ ((n : Int)).toNat - 1 := by decide +kernel
  exact this n (by omega)
theorem dec_bits {v w : Int} {o : Nat} (hv : 0 ≤ v) (h0 : 0 ≤ w) (h1 : w ≤ 28) : Builtin.bitAnd (v.fdiv (2 ^ o)) ((4294967295 : Int).fdiv (2 ^ (32 - w).toNat)) = (v / 2 ^ o) % 2 ^ w.toNat := by
  have hp : (0 : Int) < 2 ^ o := Int.pow_pos (by decide)
  rw [mask_of h0 h1, Int.fdiv_eq_ediv_of_nonneg _ (by omega), bitAnd_mask (Int.ediv_nonneg hv (by omega))]
end Mine

namespace Mine
def LpEndR (h₀ : Heap) (L : Addr) (J : (Str → Option Value) → Prop) (news : List (Addr × Obj)) (s₁ : Shared) (Q : Value → Shared → Prop) (f : Flow) (s₂ : Shared) : Prop :=
  match f with
  | .next | .cont => ∃ h' tk m', s₂ = { s₁ with heap := h', toks := tk } ∧ Fr h₀ L h' m' ∧ News h₀ L h' news ∧ J m'
  | .brk => False
  | .ret v => Q v s₂
section
variable {prog : Program} {w : World} {A : Around} {E : Value → Shared → Prop} {s : Shared} {env : Env} {h₀ : Heap} {x : Str} {body : List Stmt} {Q : Flow → Shared → Prop}
theorem for_rangeR {r : Addr} {a b c : Int} {t u v : Tok} {n : Nat} {m₀ : Str → Option Value} {news : List (Addr × Obj)} (J : Nat → (Str → Option Value) → Prop)
    (hh : A.handled = none) (hR : IsRange s.heap r a b c t u v) (hsm : Builtin.Range.small a b c = true) (hn : Builtin.Range.rangeSize a b c = n) (F : Fr h₀ env.locals s.heap m₀) (N : News h₀ env.locals s.heap news) (hj : J 0 m₀)
    (turn : ∀ i t m₁ h tk own, i < n → J i m₁ → Fr h₀ env.locals h (fun y => if y = x then some (.int (a + (i : Nat) * c) t) else m₁ y) → News h₀ env.locals h (own ++ news) →
      wpAny (model prog w) A (execs body env) (LpEndR h₀ env.locals (J (i + 1)) (own ++ news) { s with heap := h, toks := tk } fun v s' => Q (.ret v) s') E { s with heap := h, toks := tk })
    (done : ∀ m₁ h tk, J n m₁ → Fr h₀ env.locals h m₁ → News h₀ env.locals h news → Q .next { s with heap := h, toks := tk }) :
    wpAny (model prog w) A (pyIter (.ref r)) (fun it s₂ => LoopAtV prog w A h₀ env x body Q E it s₂) E s := by
  refine wpAny_pyIter_range hR hsm ?_
  have W := walks_strong (Walks.range (prog := prog) (w := w) hh s.heap.objs.size a c n)
  let J' : Nat → (Str → Option Value) → List (Addr × Obj) → Prop := fun i m₁ news₁ => news₁ = news ∧ J i m₁
  refine ⟨_, _, _, n, _, _, m₀, news, J', rfl, W, ?_, ?_, ?_, ?_, F.push _, (fun p hp => ⟨Heap.get?_push_of_some _ (N p hp).1, (N p hp).2⟩), ⟨rfl, hj⟩, ?_, ?_⟩
  · intro hm
    have e := List.mem_singleton.mp hm
    exact absurd F.ns.lt (e ▸ Nat.lt_irrefl _)
  · intro b hb
    rw [List.mem_singleton.mp hb]
    exact next_is_new F
  · intro p hp hI
    exact absurd (Heap.lt_size (N p hp).1) ((List.mem_singleton.mp hI) ▸ Nat.lt_irrefl _)
  · show IsRangeIter _ _ _ _ _
    have : (s.heap.push { cls := .type "range_iterator", data := .fields #[rawInt a, rawInt (Builtin.Range.rangeSize a b c), rawInt c] }).get? s.heap.objs.size = _ := Heap.get?_push_size _ rfl
    simpa [IsRangeIter, hn] using this
  · rintro i v m₁ news₁ s₁ own ⟨hh', tk', rfl⟩ hin ⟨_, tv, rfl⟩ ⟨rfl, hJ⟩ hoff _ _ _ _ F₁ N₁
    refine wpAny_mono (turn i tv m₁ hh' tk' own hin hJ F₁ N₁) (fun f s₂ p => ?_) fun _ _ e => e
    cases f with
    | ret v => exact p
    | brk => exact absurd p id
    | next =>
      obtain ⟨h', tk, m', e, F', N', hm⟩ := p
      exact ⟨rfl, h', tk, m', news₁, e, F', N', hoff, rfl, hm⟩
    | cont =>
      obtain ⟨h', tk, m', e, F', N', hm⟩ := p
      exact ⟨rfl, h', tk, m', news₁, e, F', N', hoff, rfl, hm⟩
  · rintro h' tk m' news' F' N' _ ⟨rfl, hJ⟩
    exact done m' h' tk hJ F' N'
end

theorem ints_get? {vs : List Value} {ns : List Int} (h : IntsAre vs ns) : ∀ {i : Nat}, i < ns.length → ∃ t, vs[i]? = some (.int (ns.getD i 0) t) := by
  induction h with
  | nil => intro i hi; exact absurd hi (Nat.not_lt_zero _)
  | cons n t _ ih =>
    intro i hi
    cases i with
    | zero => exact ⟨t, by simp⟩
    | succ i => simpa using ih (i := i) (by simpa using hi)
section
variable {prog : Program} {w : World} {A : Around} {E : Value → Shared → Prop} {s : Shared} {h₀ : Heap} {L : Addr} {m : Str → Option Value}
theorem num_at (P : Params) : ∃ items : List Value, ∃ n, (Mine.hd.heap_39 P).lookup 123 = some ⟨.type "list", none, .seq items.toArray n, #[]⟩ ∧ ∀ i < 16, ∃ t, items[i]? = some (.int (layAt i).length t) := by
  refine ⟨_, _, rfl, ?_⟩
  intro i hi
  have hc : i = 0 ∨ i = 1 ∨ i = 2 ∨ i = 3 ∨ i = 4 ∨ i = 5 ∨ i = 6 ∨ i = 7 ∨ i = 8 ∨ i = 9 ∨ i = 10 ∨ i = 11 ∨ i = 12 ∨ i = 13 ∨ i = 14 ∨ i = 15 := by omega
  rcases hc with rfl | rfl | rfl | rfl | rfl | rfl | rfl | rfl | rfl | rfl | rfl | rfl | rfl | rfl | rfl | rfl <;> exact ⟨_, rfl⟩
theorem bits_at (P : Params) : ∃ items : List Value, ∃ n, (Mine.hd.heap_39 P).lookup 141 = some ⟨.type "list", none, .seq items.toArray n, #[]⟩ ∧ ∀ i < 16, ∃ a l k, items[i]? = some (.ref a) ∧ (Mine.hd.heap_39 P).lookup a = some ⟨.type "tuple", none, .seq (List.toArray l) k, #[]⟩ ∧ IntsAre l (layAt i) := by
  refine ⟨_, _, rfl, ?_⟩
  intro i hi
  have hc : i = 0 ∨ i = 1 ∨ i = 2 ∨ i = 3 ∨ i = 4 ∨ i = 5 ∨ i = 6 ∨ i = 7 ∨ i = 8 ∨ i = 9 ∨ i = 10 ∨ i = 11 ∨ i = 12 ∨ i = 13 ∨ i = 14 ∨ i = 15 := by omega
  rcases hc with rfl | rfl | rfl | rfl | rfl | rfl | rfl | rfl | rfl | rfl | rfl | rfl | rfl | rfl | rfl | rfl <;>
   (refine ⟨_, _, _, rfl, rfl, ?_⟩; repeat (first | exact IntsAre.nil | refine IntsAre.cons _ _ ?_))

theorem num_item {P : Params} {value slice : Expr} {i : Nat} {u : Tok} {Q : Value → Shared → Prop} (X : (Mine.hd.heap_39 P).In h₀) (F : Fr h₀ L s.heap m) (h16 : i < 16) (h : ∀ t, Q (.int (layAt i).length t) s)
    (hs : subscripted slice false (.ref 123) (.int i u) = operate [.ref 123, .int i u] (getItem (.ref 123) (.int i u)) := by with_unfolding_all rfl) :
    wpAny (model prog w) A (subscriptTail value slice (.ref 123) (.int i u)) Q E s := by
  obtain ⟨items, n, hl, hx⟩ := num_at P
  obtain ⟨t, ht⟩ := hx i h16
  exact topList_K F X hl (by omega) (by omega) ht (h t) hs
theorem bits_item {P : Params} {value slice : Expr} {i : Nat} {u : Tok} {Q : Value → Shared → Prop} (X : (Mine.hd.heap_39 P).In h₀) (F : Fr h₀ L s.heap m) (h16 : i < 16)
    (h : ∀ a l k, (Mine.hd.heap_39 P).lookup a = some ⟨.type "tuple", none, .seq (List.toArray l) k, #[]⟩ → IntsAre l (layAt i) → Q (.ref a) s)
    (hs : subscripted slice false (.ref 141) (.int i u) = operate [.ref 141, .int i u] (getItem (.ref 141) (.int i u)) := by with_unfolding_all rfl) :
    wpAny (model prog w) A (subscriptTail value slice (.ref 141) (.int i u)) Q E s := by
  obtain ⟨items, n, hl, hx⟩ := bits_at P
  obtain ⟨a, l, k, ha, hla, hi⟩ := hx i h16
  exact topList_K F X hl (by omega) (by omega) ha (h a l k hla hi) hs
theorem bit_item {P : Params} {value slice : Expr} {j : Nat} {a : Addr} {l : List Value} {ws : List Int} {k : Nat} {u : Tok} {Q : Value → Shared → Prop} (X : (Mine.hd.heap_39 P).In h₀) (F : Fr h₀ L s.heap m)
    (hl : (Mine.hd.heap_39 P).lookup a = some ⟨.type "tuple", none, .seq (List.toArray l) k, #[]⟩) (hi : IntsAre l ws) (h16 : j < ws.length) (hz : ws.length ≤ 28) (h : ∀ t, Q (.int (ws.getD j 0) t) s)
    (hs : subscripted slice false (.ref a) (.int j u) = operate [.ref a, .int j u] (getItem (.ref a) (.int j u)) := by with_unfolding_all rfl) :
    wpAny (model prog w) A (subscriptTail value slice (.ref a) (.int j u)) Q E s := by
  obtain ⟨t, ht⟩ := ints_get? hi (i := j) h16
  refine topTup_K F X hl (by omega) (by omega) (j := j) ?_ ht (h t) hs
  have := hi.length
  have e1 : ¬ (j : Int) < 0 := by omega
  have e2 : (j : Int) < (l.length : Int) := by omega
  simp only [seqIndex?]
  rw [if_neg e1, if_pos (by simp; omega)]
  rfl
end

local macro_rules | `(tactic| walk_at "exec For Name Call cons nil") => `(tactic| refine Stop.mk ?_)
local macro_rules | `(tactic| walk_at "pyIter ref") => `(tactic| refine Stop.mk ?_)
local macro_rules | `(tactic| walk_at "exec While BoolOp cons nil") => `(tactic| refine Stop.mk ?_)

section
variable {prog : Program} {w : World} {A : Around} {E : Value → Shared → Prop} {s : Shared} {env : Env}
/-- raise Exception, the class by its name -/
theorem raise_exc {x : Str} {np pos : Pos} {Q : Flow → Shared → Prop} (hh : A.handled = none)
    (hx : wpAny (model prog w) A (eval (.Name x np) env) (fun v s₁ => v = .type "Exception" ∧ s₁ = s) E s)
    (h : ∀ h' e, Heap.MadeExc s.heap h' e "Exception" [] → E (.ref e) { s with heap := h' }) :
    wpAny (model prog w) A (exec (.Raise (some (.Name x np)) none pos) env) Q E s := by
  have hself : isSubtype (.type "Exception") (.type "Exception") = pure true := by rw [isSubtype_type]; kernel_rfl
  show wpAny (model prog w) A (do standAt pos; raiseStmt env (some (do let v ← eval (.Name x np) env; standAt pos; pure v)) none) Q E s
  refine wpAny_bind (wpAny_standAt ?_)
  unfold raiseStmt
  dsimp only
  refine wpAny_bind (wpAny_bind (wpAny_mono hx (fun v s₁ h₁ => wpAny_bind (wpAny_standAt (wpAny_pure ?_))) fun _ _ e => e))
  obtain ⟨rfl, hs₁⟩ := h₁
  subst s₁
  refine wpAny_bind (wpAny_pure ?_)
  dsimp only
  refine wpAny_bind (wpAny_holding ?_)
  unfold excFromValue isExcClass
  refine wpAny_bind (wpAny_bind (wpAny_pure ?_))
  simp only [if_true]
  rw [PySem.F.excRaise_Exception.isExc]
  refine wpAny_pure ?_
  simp only [if_true]
  refine wpAny_bind (wpAny_call_exc PySem.F.excCall_Exception fun h' e hn => ?_)
  obtain ⟨t, he, _⟩ := hn.there
  have hT : ({ s with heap := h' } : Shared).TypeIs (.ref e) "Exception" := (show ∃ o, h'.get? e = some o ∧ o.cls = .type "Exception" from ⟨_, he, rfl⟩)
  refine wpAny_bind (wpAny_isInstance hT PySem.F.excRaise_Exception.isExc ?_)
  simp only [Bool.not_true, Bool.false_eq_true, if_false]
  refine wpAny_pure ?_
  first | (refine wpAny_bind (m := isType (.type "Exception")) (wpAny_pure ?_)) | (refine wpAny_bind (wpAny_pure ?_))
  first | (rw [if_pos rfl]) | (simp only [if_true]) | dsimp only
  refine wpAny_bind (wpAny_holding ?_)
  unfold raisedFor
  first | (simp only [Bool.false_eq_true, if_false]) | (rw [if_neg (by decide)]) | skip
  first | (refine wpAny_bind (wpAny_typeOf hT ?_)) | (refine wpAny_bind ?_; refine wpAny_bind (wpAny_typeOf hT ?_))
  refine wpAny_bind (call_issubclass (issubclass_self excClass_Exception hself) ?_)
  first | (refine wpAny_bind (wpAny_truthy_bool ?_)) | (refine wpAny_truthy_bool ?_) | (dsimp only [wants]; first | (refine wpAny_bind (wpAny_truthy_bool ?_)) | (refine wpAny_truthy_bool ?_))
  first | (rw [if_pos rfl]) | (simp only [if_true]) | skip
  refine wpAny_pure ?_
  unfold setFlight raiseNew
  refine wpAny_bind (wpAny_bind (wpAny_field (i := 1) (x := Value.none) he rfl rfl ?_))
  rw [if_neg (by decide)]
  refine wpAny_pure (wpAny_bind (wpAny_handled ?_))
  rw [hh]
  first
    | exact wpAny_throw (h h' e hn)
    | exact wpAny_bind (wpAny_pure (wpAny_throw (h h' e hn)))
end
end Mine

namespace Mine

local macro_rules | `(tactic| walk_at "exec For Name Call cons nil") => `(tactic| refine Stop.mk ?_)
local macro_rules | `(tactic| walk_at "exec Raise some none") => `(tactic| refine Stop.mk ?_)
local macro_rules | `(tactic| walk_at "pyIter ref") => `(tactic| refine Stop.mk ?_)
local macro_rules | `(tactic| walk_at "exec While BoolOp cons nil") => `(tactic| refine Stop.mk ?_)
local macro_rules | `(tactic| walk_at "subscriptTail Name Name ref int") => `(tactic| ((with_reducible show wpAny _ _ (subscriptTail _ _ (Value.ref 123) (Value.int _ _)) _ _ _); refine' num_item ?X ?F ?h ?_; (case X => assumption); (case F => assumption); (case h => assumption); intro _))
local macro_rules | `(tactic| walk_at "subscriptTail Name Name ref int") => `(tactic| ((with_reducible show wpAny _ _ (subscriptTail _ _ (Value.ref 141) (Value.int _ _)) _ _ _); refine' bits_item ?X ?F ?h ?_; (case X => assumption); (case F => assumption); (case h => assumption); intro _ _ _ _ _))
local macro_rules | `(tactic| walk_at "subscriptTail Name Name ref int") => `(tactic| (refine' bit_item ?X ?F ?l ?i ?h ?z ?_; (case X => assumption); (case F => assumption); (case l => assumption); (case i => assumption); (case h => assumption); (case z => assumption); intro _))

theorem ex_int {o : Option Value} {a b : Int} (h : ∃ t, o = some (.int a t)) (e : a = b) : ∃ t, o = some (.int b t) := e ▸ h
theorem un3 {h h' : Heap} {a c d : Addr} {oa oc od : Obj} (k : (((h.hide a).hide c).hide d).StaysIn h') (hac : a ≠ c) (had : a ≠ d) (hcd : c ≠ d) (ha : h.get? a = some oa) (hc : h.get? c = some oc) (hd : h.get? d = some od) (ha' : h'.get? a = some oa) (hc' : h'.get? c = some oc) (hd' : h'.get? d = some od) : h.StaysIn h' :=
  stays_unhide (stays_unhide (stays_unhide k (((Heap.hide_ne _ fun e => hcd e.symm).trans ((Heap.hide_ne _ fun e => had e.symm).trans hd))) hd') ((Heap.hide_ne _ fun e => hac e.symm).trans hc) hc') ha ha'

structure CJ (a : Addr) (p : Nat) (tp tn : Tok) (ns xs : List Int) (i j : Nat) (m : Str → Option Value) : Prop where
  fit : ∀ t < j, xs.getD t 0 < 2 ^ ((layAt i).getD t 0).toNat
  le : j ≤ takenAt i xs
  mv : ∃ t, m (Str.ofString "value") = some (.int ((i : Int) * 2 ^ 28 + lowS (layAt i) xs j) t)
  mbs : ∃ t, m (Str.ofString "bits") = some (.int (offs (layAt i) j) t)
  mj : ∃ t, m (Str.ofString "j") = some (.int j t)
  mnum : ∃ t, m (Str.ofString "num") = some (.int (takenAt i xs) t)
  mkey : ∃ t, m (Str.ofString "key") = some (.int i t)
  mb : ∃ t, m (Str.ofString "_bitsize") = some (.int 28 t)
  mn : m (Str.ofString "_num") = some (.ref 123)
  mbi : m (Str.ofString "_bits") = some (.ref 141)
  mi : m (Str.ofString "inarray") = some (.ref a)
  mo : m (Str.ofString "inoffset") = some (.int p tp)
  mnn : m (Str.ofString "n") = some (.int ((ns.length : Int) - p) tn)

set_option maxHeartbeats 4000000 in
theorem comp_spec {w : World} {me : ExcName → Option Value} {mg mb : Str → Option Value} {fr : Option (List Env)} {gd : Option (List Code)} {s : Shared} {Q E : Value → Shared → Prop} {a c dx : Addr} {vs : List Value} {ns : List Int} {k p : Nat} {tp tn : Tok}
    (X : (Mine.hd.heap_39 w.params).In (((s.heap.hide a).hide c).hide dx)) (T : TP me mg mb (((s.heap.hide a).hide c).hide dx)) (ha : s.heap.get? a = some (PySem.W.listOf vs.toArray k)) (hc : s.heap.get? c = some (instObj 179 dx)) (hdx : s.heap.get? dx = some (PySem.W.dictOf [] 0)) (hac : a ≠ c ∧ a ≠ dx ∧ c ≠ dx)
    (hi : IntsAre vs ns) (hn : ∀ x ∈ ns, 0 ≤ x ∧ x ≤ 2 ^ 28) (hl : ns.length ≤ 30) (hp : p < ns.length)
    (hE : keyOf (ns.drop p) = none → ∃ base outer, Below (amb fr gd 390 390) base outer (((s.heap.hide a).hide c).hide dx) ∧ ∀ e h' tk t, RaisedK base outer e (.type "Exception") t [] [] h' → Heap.UpToSlots (((s.heap.hide a).hide c).hide dx) h' → E (.ref e) { s with heap := h', toks := tk })
    (h1 : ∀ i, keyOf (ns.drop p) = some i → ∀ h' tk V t1 t2, s.heap.StaysIn h' → Made s.heap h' [(V, { cls := .type "tuple", data := .seq #[.int (valAt i (ns.drop p)) t1, .int (takenAt i (ns.drop p)) t2] })] → Q (.ref V) { s with heap := h', toks := tk }) :
    wpAny (model PySem.Challenge.rw_lh0074_01.row.prog w) (amb fr gd 390 390) (call (.ref 155) [.ref c, .ref a, .int p tp, .int ((ns.length : Int) - p) tn]) Q E s := by
  obtain ⟨hac, had, hcd⟩ := hac
  revert X; k_fill; intro X
  refine wpAny_call ?_
  have Hd : ∀ {b}, b ≠ a → b ≠ c → b ≠ dx → (((s.heap.hide a).hide c).hide dx).get? b = s.heap.get? b := fun h1 h2 h3 => (Heap.hide_ne _ h3).trans ((Heap.hide_ne _ h2).trans (Heap.hide_ne _ h1))
  k_dflt (refine' enterG (g := ((s.heap.hide a).hide c).hide dx) (news := [(a, PySem.W.listOf vs.toArray k), (c, instObj 179 dx), (dx, PySem.W.dictOf [] 0)]) (binds := [(Str.ofString "self", .ref c), (Str.ofString "inarray", .ref a), (Str.ofString "inoffset", .int p tp), (Str.ofString "n", .int ((ns.length : Int) - p) tn)]) ?k1 ?g1 ?g2 ?g3 ?k2 ?k3 ?k4 ?k5 ?k6 ?k7 ?_ ?c1 ?c2 ?c3 ?k8; (case k1 => assumption); (case g1 => exact fun _ _ e => Heap.of_hide (Heap.of_hide (Heap.of_hide e))); (case g2 => simp only [Heap.hide_size]; exact Nat.le_refl _); (case g3 => (intro p hp; simp only [List.mem_cons, List.not_mem_nil, or_false] at hp; rcases hp with rfl | rfl | rfl; refine ⟨ha, ?_⟩; rw [Heap.hide_ne _ had, Heap.hide_ne _ hac]; exact Heap.hide_self _ _; refine ⟨hc, ?_⟩; rw [Heap.hide_ne _ hcd]; exact Heap.hide_self _ _; exact ⟨hdx, Heap.hide_self _ _⟩)); (case k2 => exact T.nolimit); (case k3 => exact (by decide : (390 : Nat) < 1000)); (case k4 => k_is); (case k5 => k_is); (case k6 => exact BindsTo.of_eq rfl); (case k7 => (intro y hy; simp only [List.mem_cons, List.not_mem_nil, or_false] at hy; rcases hy with rfl | rfl | rfl | rfl <;> rfl)); (case c1 => exact rfl); (case c2 => exact rfl); (case c3 => exact rfl); (case k8 => decide +kernel))
  intro L h₁ F N hlt hst hL
  (try dsimp only)
  (try k_fold)
  k_steps
  refine Stop.go (For_invV (((s.heap.hide a).hide c).hide dx) rfl rfl ?_)
  k_steps
  rename IsRange _ _ _ _ _ _ _ _ => hR
  obtain ⟨xs, hxs⟩ : ∃ xs, xs = ns.drop p := ⟨_, rfl⟩
  rw [← hxs] at h1 hE
  have hxl : xs.length = ns.length - p := by rw [hxs, List.length_drop]
  have hx0 : ∀ x ∈ xs, 0 ≤ x := fun x hx => (hn x (by rw [hxs] at hx; exact List.mem_of_mem_drop hx)).1
  refine Stop.go (for_rangeR (n := 16) (fun i m => (∀ j < i, fitsB (layAt j) xs = false) ∧ (∃ t, m (Str.ofString "_bitsize") = some (.int 28 t)) ∧ m (Str.ofString "_num") = some (.ref 123) ∧ m (Str.ofString "_bits") = some (.ref 141) ∧ m (Str.ofString "inarray") = some (.ref a) ∧ m (Str.ofString "inoffset") = some (.int p tp) ∧ m (Str.ofString "n") = some (.int ((ns.length : Int) - p) tn)) rfl hR rfl rfl (by assumption) (by assumption) ⟨fun j hj => absurd hj (Nat.not_lt_zero _), ⟨_, rfl⟩, rfl, rfl, rfl, rfl, rfl⟩ ?_ ?_)
  · rintro i ti m₂ h₂₀ tk₂₀ own i16 ⟨hbad, ⟨tb, mb⟩, mn, mbi, mi, mo, mnn⟩ F₂₀ N₂₀
    simp only [Int.zero_add, Int.mul_one] at F₂₀
    have hlp := lay_pos i i16
    have hw28 : (layAt i).length ≤ 28 := lay_falls 0 (by decide) i i16 (Nat.zero_le _)
    replace F₂₀ := fr_know (fr_know (fr_know (fr_know (fr_know (fr_know F₂₀ (Str.ofString "_bitsize") _ mb) (Str.ofString "_num") _ mn) (Str.ofString "_bits") _ mbi) (Str.ofString "inarray") _ mi) (Str.ofString "inoffset") _ mo) (Str.ofString "n") _ mnn
    clear hR
    k_steps
    all_goals
      have htl : takenAt i xs ≤ (layAt i).length := by unfold takenAt; omega
      have htx : takenAt i xs ≤ xs.length := by unfold takenAt; omega
      rename Fr _ _ _ _ => F3
      rename News _ _ _ _ => N3
      refine Stop.go (While_inv2 (fun n m nx => nx = own ++ [(a, PySem.W.listOf vs.toArray k), (c, instObj 179 dx), (dx, PySem.W.dictOf [] 0)] ∧ ∃ j, n = takenAt i xs - j ∧ CJ a p tp tn ns xs i j m) (n₀ := takenAt i xs) F3 N3 ?_ ?_)
      · exact ⟨rfl, 0, rfl, fun t ht => absurd ht (Nat.not_lt_zero _), Nat.zero_le _, ex_int ⟨_, rfl⟩ (show (i : Int) * 2 ^ (Int.toNat 28) = _ by simp [lowS]), ⟨_, rfl⟩, ⟨_, rfl⟩, ex_int ⟨_, rfl⟩ (by unfold takenAt; omega), ⟨_, rfl⟩, ⟨_, rfl⟩, rfl, rfl, rfl, rfl, rfl⟩
      · rintro n m₃ nx h₃₀ tk₃₀ F₃₀ N₃₀ ⟨rfl, j, hn', ⟨fit, le, ⟨t1, mv⟩, ⟨t2, mbs⟩, ⟨t3, mj⟩, ⟨t4, mnum⟩, ⟨t5, mkey⟩, ⟨t6, mb'⟩, mn', mbi', mi', mo', mnn'⟩⟩
        replace F₃₀ := fr_know (fr_know (fr_know (fr_know (fr_know (fr_know (fr_know (fr_know (fr_know (fr_know (fr_know F₃₀ (Str.ofString "_bitsize") _ mb') (Str.ofString "_num") _ mn') (Str.ofString "_bits") _ mbi') (Str.ofString "inarray") _ mi') (Str.ofString "inoffset") _ mo') (Str.ofString "n") _ mnn') (Str.ofString "key") _ mkey) (Str.ofString "num") _ mnum) (Str.ofString "j") _ mj) (Str.ofString "bits") _ mbs) (Str.ofString "value") _ mv
        clear F3 N3 F₂₀ N₂₀
        by_cases hjt : j < takenAt i xs
        · have hjl : j < (layAt i).length := by omega
          have hgz := layAt_small i i16 _ (List.getElem_mem hjl)
          have hgd : (layAt i).getD j 0 = (layAt i)[j] := by simp [List.getD, hjl]
          rw [← hgd] at hgz
          obtain ⟨w0, w1⟩ := hgz
          have hoff := offs_le (layAt i) j
          rw [lay_bits i i16] at hoff
          have hxg : ns.getD ((p : Int) + (j : Int)).toNat 0 = xs.getD j 0 := by
            rw [hxs, show ((p : Int) + (j : Int)).toNat = p + j by omega]
            simp [List.getD, List.getElem?_drop]
          have hxb : 0 ≤ ns.getD ((p : Int) + (j : Int)).toNat 0 ∧ ns.getD ((p : Int) + (j : Int)).toNat 0 ≤ 2 ^ 28 := by
            have hq : ((p : Int) + (j : Int)).toNat < ns.length := by omega
            have := hn _ (List.getElem_mem hq)
            simpa [List.getD, hq] using this
          obtain ⟨x0, x1⟩ := hxb
          k_steps
          · rename (ns.getD _ 0 < _) => hlt1
            rename Fr _ _ _ _ => F4
            rename News _ _ _ _ => N4
            rw [Int.one_mul, hxg] at hlt1
            refine ⟨_, _, _, _, takenAt i xs - (j + 1), rfl, F4, N4, by omega, rfl, j + 1, rfl, fun t ht => ?_, hjt, ex_int ⟨_, rfl⟩ (comp_step i16 hjt hx0 fit hxg (hxg ▸ hlt1) rfl), ex_int ⟨_, rfl⟩ ?_, ex_int ⟨_, rfl⟩ (by omega), ⟨_, rfl⟩, ⟨_, rfl⟩, ⟨_, rfl⟩, rfl, rfl, rfl, rfl, rfl⟩
            · rcases Nat.lt_succ_iff_lt_or_eq.mp ht with ht | rfl
              · exact fit t ht
              · exact hlt1
            · rw [offs_succ hjl]; omega
          · exfalso; omega
          · rename (¬ ns.getD _ 0 < _) => hlt1
            rename Fr _ _ _ _ => F4
            rename News _ _ _ _ => N4
            rw [Int.one_mul, hxg] at hlt1
            refine ⟨_, _, _, rfl, F4, N4, fun t ht => ?_, ⟨_, rfl⟩, rfl, rfl, rfl, rfl, rfl⟩
            rcases Nat.lt_succ_iff_lt_or_eq.mp ht with ht | rfl
            · exact hbad t ht
            · exact comp_bad hjt hlt1
        · obtain rfl : j = takenAt i xs := by omega
          k_steps
          · rename Fr _ _ _ _ => F4
            rename News _ _ _ _ => N4
            rename_i D4 _ l4
            obtain ⟨hff, hval⟩ := comp_full i16 fit
            have hNa := (N4 (a, PySem.W.listOf vs.toArray k) (by simp)).1
            have hNc := (N4 (c, instObj 179 dx) (by simp)).1
            have hNd := (N4 (dx, PySem.W.dictOf [] 0) (by simp)).1
            have hND := N4 _ (.head _)
            rw [hval] at N4
            refine h1 i (keyOf_first i16 hff hbad) _ _ D4 t1 t4 (un3 F4.keep hac had hcd ha hc hdx hNa hNc hNd) ?_
            intro q hq
            rw [List.mem_singleton] at hq
            subst hq
            refine ⟨(N4 _ (.head _)).1, ?_⟩
            rw [← Hd (Nat.ne_of_gt (l4 (a, PySem.W.listOf vs.toArray k) (by simp))) (Nat.ne_of_gt (l4 (c, instObj 179 dx) (by simp))) (Nat.ne_of_gt (l4 (dx, PySem.W.dictOf [] 0) (by simp)))]
            exact hND.2.2
          · exfalso; omega
  · rintro m₂ h₂₀ tk₂₀ ⟨hbad, ⟨tb, mb⟩, mn, mbi, mi, mo, mnn⟩ F₂₀ N₂₀
    obtain ⟨base, outer, hB, hEE⟩ := hE (keyOf_not hbad)
    clear hR
    dsimp only
    k_steps
    refine Stop.go (raise_exc rfl ?_ fun h₃ e hm => ?_)
    · k_steps
      all_goals exact ⟨rfl, rfl⟩
    · exact leave_raiseK hB (Heap.MadeExc.of hm) F₂₀ News.nil fun h₄ t R U => hEE e h₄ _ t R U
end Mine

namespace Mine
theorem parse_I : Builtin.Struct.parse #[60, 73] = pure { bigEndian := false, native := false, codes := [⟨'I', 1, 0, 4⟩], size := 4, items := 1 } := by
  have e : (#[60, 73] : Array UInt8).contains 0 = false := by decide +kernel
  unfold Builtin.Struct.parse
  rw [e]
  kernel_rfl
abbrev FI : Builtin.Struct.Format := { bigEndian := false, native := false, codes := [⟨'I', 1, 0, 4⟩], size := 4, items := 1 }
section
variable {M : Model} {A : Around} {E : Value → Shared → Prop} {s : Shared}
theorem sf_I {Q : Array UInt8 × Builtin.Struct.Format → Shared → Prop} {t50 : Tok} (h50 : s.heap.get? 50 = some { cls := .type "_struct.Struct", data := .fields #[.bytes #[60, 73] t50] })
    (h : Q (#[60, 73], FI) s) : wpAny M A (Builtin.Struct.structFormat (.ref 50)) Q E s := by
  unfold Builtin.Struct.structFormat
  refine wpAny_bind (wpAny_field (x := .bytes #[60, 73] t50) h50 rfl rfl ?_)
  rw [if_neg (show ¬ ((Value.bytes #[60, 73] t50 == Value.none) = true) from by simp [BEq.beq])]
  show wpAny M A (do let b ← Builtin.Bytes.payload (.bytes #[60, 73] t50); let __do_lift ← Builtin.Struct.parse b; pure (b, __do_lift)) _ _ _
  refine wpAny_bind ?_
  show wpAny M A (pure (#[60, 73] : Array UInt8)) _ _ _
  refine wpAny_pure (wpAny_bind ?_)
  rw [parse_I]
  exact wpAny_pure (wpAny_pure h)
theorem packed_I {Q : Fin → Shared → Prop} {v : Int} {t : Tok} (h0 : 0 ≤ v) (h1 : v < 2 ^ 32) (h : ∀ tk t', Q (.done (.ret (.bytes (Builtin.Struct.intBytes false 4 v) t'))) { s with toks := tk }) :
    wpAny M A (Builtin.Struct.packed "_struct.Struct.pack" "pack" FI [.int v t]) Q E s := by
  unfold Builtin.Struct.packed
  rw [if_neg (show ¬ (([Value.int v t].length != FI.items) = true) from by simp)]
  try refine wpAny_bind (wpAny_pure ?_)
  rw [if_neg (by decide +kernel)]
  try refine wpAny_bind (wpAny_pure ?_)
  refine wpAny_bind ?_
  unfold Builtin.Struct.packEach
  simp only [FI, List.forIn_cons, List.forIn_nil]
  simp
  rw [map_eq_pure_bind]
  refine wpAny_bind ?_
  wp_delta
  repeat wp_step
  rw [if_neg (by simp [Char.isLower]; omega)]
  refine wpAny_pure (wpAny_pure ?_)
  repeat wp_step
  exact h _ _
end
end Mine

namespace Mine
section
variable {prog : Program} {w : World} {A : Around} {E : Value → Shared → Prop} {s : Shared} {Q : Value → Shared → Prop}
theorem bound_call {f : Addr} {id : String} {b : Builtin} {args : List Value} (hf : s.heap.get? f = some { cls := .type "builtin_function_or_method", data := .fields #[.builtin id, .ref 50] })
    (hq : id.startsWith "lifetime." = false) (hb : entryFor table id = some b)
    (hck : ∀ {M : Model} {A : Around} {E : Value → Shared → Prop} {Q : Unit → Shared → Prop}, Q () s → wpAny M A (checkBoundCall id ⟨.ref 50 :: args, []⟩) (fun u s' => Q u s') E s)
    (h : ∀ A : Around, wpAny (model prog w) A (b ⟨.ref 50 :: args, []⟩) (fun fin s' => ∃ v, fin = .done (.ret v) ∧ Q v s') E s) :
    wpAny (model prog w) A (call (.ref f) args) Q E s := by
  refine wpAny_call (codeAny_of_tree ?_)
  show wpAny _ _ (callAny (.ref f) ⟨args, []⟩) _ _ _
  unfold callAny
  refine wpAny_bind (wpAny_load hf ?_)
  dsimp only
  rw [if_pos (by decide)]
  refine wpAny_bind (m := checkBoundCall id ⟨.ref 50 :: args, []⟩) (hck ?_)
  refine wpAny_pure ⟨Code.quiet_builtin _ hq, codeAny_builtin hb ?_⟩
  refine wpAny_mono (h _) (fun fin s' hf => ?_) fun _ _ e => e
  obtain ⟨v, rfl, hv⟩ := hf
  exact hv
theorem bytesLike_bytes {b : Array UInt8} {t : Tok} {Q : Array UInt8 → Shared → Prop} (h : Q b s) : wpAny (model prog w) A (Builtin.Bytes.bytesLike "_struct.Struct.unpack" (.bytes b t)) Q E s := by
  have hl : typeLookup (.type "bytes") (Str.ofString "__buffer__") = pure (some (.builtin "bytes.__buffer__")) := by rw [typeLookup_type, builtinLookup_eq_fast]; kernel_rfl
  have hT : s.TypeIs (.bytes b t) "bytes" := rfl
  have hr : typeLookup (.type "bytes") (Str.ofString "__release_buffer__") = pure none := by rw [typeLookup_type, builtinLookup_eq_fast]; kernel_rfl
  have hI : isSubtype (.type "bytes") (.type "bytes") = pure true := by rw [isSubtype_type]; kernel_rfl
  have hd : "bytes.__buffer__".dropRight ("__buffer__".length + 1) = "bytes" := by decide +kernel
  unfold Builtin.Bytes.bytesLike
  refine wpAny_bind ?_
  repeat wp_step
  rw [if_neg (by decide +kernel), hd]
  repeat wp_step
  exact h
abbrev ob50 (t50 : Tok) : Obj := { cls := .type "_struct.Struct", data := .fields #[.bytes #[60, 73] t50] }
theorem pack_call {v : Int} {t t50 : Tok} (h51 : s.heap.get? 51 = some { cls := .type "builtin_function_or_method", data := .fields #[.builtin "_struct.Struct.pack", .ref 50] }) (h50 : s.heap.get? 50 = some (ob50 t50))
    (h0 : 0 ≤ v) (h1 : v < 2 ^ 32) (h : ∀ tk t', Q (.bytes (Builtin.Struct.intBytes false 4 v) t') { s with toks := tk }) :
    wpAny (model prog w) A (call (.ref 51) [.int v t]) Q E s := by
  refine bound_call (b := Builtin.«_struct.Struct.pack») h51 (by decide +kernel) (entryFor_of_tree (by kernel_rfl)) ?_ fun A => ?_
  · intro M A E Q hQ
    have hs : isSubtype (.type "_struct.Struct") (.type "module") = pure false := by rw [isSubtype_type]; kernel_rfl
    repeat (any_goals (first | assumption | wp_step))
  · unfold Builtin.«_struct.Struct.pack»
    refine wpAny_bind ?_
    show wpAny _ _ (pure ()) _ _ _
    refine wpAny_pure ?_
    dsimp only
    refine wpAny_bind (sf_I h50 ?_)
    exact packed_I h0 h1 fun tk t' => ⟨_, rfl, h tk t'⟩
theorem unpacked_I {b : Array UInt8} {Q : Value → Shared → Prop} (hb : b.size = 4) (h : ∀ h' T tk t', (∀ a o, s.heap.get? a = some o → h'.get? a = some o) → h'.get? T = some { cls := .type "tuple", data := .seq #[.int (Builtin.Memoryview.littleEndian b) t'] } → s.heap.objs.size = T → Q (.ref T) { s with heap := h', toks := tk }) :
    wpAny (model prog w) A (Builtin.Struct.unpacked "_struct.Struct.unpack" FI b 0) Q E s := by
  unfold Builtin.Struct.unpacked
  have e1 : Builtin.Bytes.tooLong 1 = false := by decide +kernel
  have e2 : b.extract 0 4 = b := by rw [← hb]; exact Array.extract_size
  simp only [FI, List.forIn_cons, List.forIn_nil]
  simp [e1, e2]
  repeat wp_step
  exact h _ _ _ _ (fun a o e => Heap.get?_push_of_some _ e) (Heap.get?_push_size _ rfl) rfl
theorem unpack_call {b : Array UInt8} {t t50 : Tok} (h52 : s.heap.get? 52 = some { cls := .type "builtin_function_or_method", data := .fields #[.builtin "_struct.Struct.unpack", .ref 50] }) (h50 : s.heap.get? 50 = some (ob50 t50))
    (hb : b.size = 4) (h : ∀ h' T tk t', (∀ a o, s.heap.get? a = some o → h'.get? a = some o) → h'.get? T = some { cls := .type "tuple", data := .seq #[.int (Builtin.Memoryview.littleEndian b) t'] } → s.heap.objs.size = T → Q (.ref T) { s with heap := h', toks := tk }) :
    wpAny (model prog w) A (call (.ref 52) [.bytes b t]) Q E s := by
  refine bound_call (b := Builtin.«_struct.Struct.unpack») h52 (by decide +kernel) (entryFor_of_tree (by kernel_rfl)) ?_ fun A => ?_
  · intro M A E Q hQ
    have hs : isSubtype (.type "_struct.Struct") (.type "module") = pure false := by rw [isSubtype_type]; kernel_rfl
    repeat (any_goals (first | assumption | wp_step))
  · unfold Builtin.«_struct.Struct.unpack»
    refine wpAny_bind ?_
    iterate 3 wp_step
    refine wpAny_ite_true rfl ?_
    refine wpAny_pure ?_
    dsimp only
    refine wpAny_pure ?_
    dsimp only
    unfold Builtin.Struct.unpackExact
    refine wpAny_bind (bytesLike_bytes ?_)
    refine wpAny_bind (wpAny_bind (sf_I h50 (wpAny_pure ?_)))
    dsimp only
    rw [if_neg (by simp [hb])]
    refine wpAny_bind (unpacked_I hb fun h' T tk t' k hT e => ?_)
    exact wpAny_pure ⟨_, rfl, h h' T tk t' k hT e⟩
end

section
variable {M : Model} {A : Around} {E : Value → Shared → Prop} {s : Shared} {env : Env}
theorem callWith_bif {K : Frag} {h₀ : Heap} (_ : K.In h₀) {pos : Pos} {f : Addr} {fs : Array Value} {e : Expr} {rest : List Expr} {Q : Value → Shared → Prop} (hl : K.lookup f = some ⟨.type "builtin_function_or_method", none, .fields fs, #[]⟩)
    (h : wpAny M A (spliced (backTo pos (starEach (e :: rest) env))) (fun vs s₁ => Frag.In K s₁.heap ∧ wpAny M A (call (.ref f) vs) Q E s₁) E s)
    (he : starEach (e :: rest) env = (false, eval e env) :: starEach rest env := by rfl)
    (hplain : (backTo pos (starEach rest env)).any (·.1) = false := by rfl) :
    wpAny M A (callWith pos (.ref f) [] (backTo pos (starEach (e :: rest) env)) []) Q E s := by
  rw [he] at h ⊢
  have hp : ((backTo pos ((false, eval e env) :: starEach rest env)).any (·.1)) = false := by show (false || (backTo pos (starEach rest env)).any (·.1)) = false; rw [hplain]; rfl
  unfold callWith
  refine wpAny_bind (wpAny_holding (evalArgs_plain (wpAny_mono h (fun a s₁ h₁ => wpAny_bind (wpAny_standAt ?_)) fun _ _ x => x)))
  obtain ⟨hK, h₁⟩ := h₁
  simp only [hp, List.any_nil, Bool.or_false]
  refine wpAny_bind ?_
  unfold keeperOf
  refine wpAny_bind (wpAny_load (hK _ _ hl) ?_)
  dsimp only
  rw [if_pos (by decide), if_pos (by decide)]
  refine wpAny_pure ?_
  dsimp only
  exact wpAny_bind (wpAny_mono h₁ (fun r s₂ hr => wpAny_bind (wpAny_holding (wpAny_point (wpAny_pure hr)))) fun _ _ x => x)
end
end Mine

namespace Mine
/-- a generator read to its end by a list that stands at S -/
structure WalkL (prog : Program) (w : World) (A : Around) (I S : Addr) (n : Nat) (P : Nat → Value → Prop) (St : Nat → Shared → Prop) (Dn : Shared → Prop) : Prop where
  frame : ∀ i (s : Shared) h' tk, St i s → (∀ b, b ≠ S → ∀ o, s.heap.get? b = some o → h'.get? b = some o) → St i { s with heap := h', toks := tk }
  item : ∀ i (s : Shared) (Q : Option Value → Shared → Prop) (E : Value → Shared → Prop), i < n → St i s → (∃ o, s.heap.get? S = some o) →
    (∀ v s', P i v → St (i + 1) s' → (∀ o, s.heap.get? S = some o → s'.heap.get? S = some o) → Q (some v) s') → wpAny (model prog w) A (pyNext (.ref I)) Q E s
  done : ∀ (s : Shared) (Q : Option Value → Shared → Prop) (E : Value → Shared → Prop), St n s → (∃ o, s.heap.get? S = some o) → (∀ s', Dn s' → (∀ o, s.heap.get? S = some o → s'.heap.get? S = some o) → Q none s') → wpAny (model prog w) A (pyNext (.ref I)) Q E s
  self : ∀ (s : Shared) (Q : Value → Shared → Prop) (E : Value → Shared → Prop), St 0 s → Q (.ref I) s → wpAny (model prog w) A (pyIter (.ref I)) Q E s
  typ : ∀ i s, St i s → s.TypeIs (.ref I) "generator"

section
variable {prog : Program} {w : World} {A : Around} {E : Value → Shared → Prop} {s : Shared} {R : Result → Shared → Prop} {I S : Addr} {n : Nat} {P : Nat → Value → Prop} {St : Nat → Shared → Prop} {Dn : Shared → Prop}
theorem extend_loopL (W : WalkL prog w A.in1 I S n P St Dn) (hn : n ≤ sizeLine) (res : Value) :
    ∀ (k i : Nat) (s : Shared) (acc : Array Value) (c : Nat), n - i = k → i ≤ n → St i s → s.heap.get? S = some { cls := .type "list", dict := none, data := .seq acc c, slots := #[] } → ItemsOf P acc i →
    (∀ s' acc' c', Dn s' → s'.heap.get? S = some { cls := .type "list", dict := none, data := .seq acc' c', slots := #[] } → ItemsOf P acc' n → R (.ok (.ret res)) s') →
    codeAny (model prog w) A (.builtin "list.extend.loop" ⟨[.ref S, .ref I, res], []⟩) R s := by
  intro k
  induction k with
  | zero =>
    intro i s acc c hk hi hst hS hacc hR
    have hin : i = n := by omega
    subst hin
    refine codeAny_builtin F.entry_extend_loop ?_
    rw [Around.under_plainId F.plain_extend_loop _]
    show wpAny _ A.in1 (pyNext (.ref I) >>= _) _ _ s
    refine wpAny_bind (W.done s _ _ hst ⟨_, hS⟩ fun s' hd hm => ?_)
    exact wpAny_pure (hR s' acc c hd (hm _ hS) hacc)
  | succ k ih =>
    intro i s acc c hk hi hst hS hacc hR
    have hlt : i < n := by omega
    refine codeAny_builtin F.entry_extend_loop ?_
    rw [Around.under_plainId F.plain_extend_loop _]
    show wpAny _ A.in1 (pyNext (.ref I) >>= _) _ _ s
    refine wpAny_bind (W.item i s _ _ hlt hst ⟨_, hS⟩ fun v s' hP hst' hm => ?_)
    have hS' := hm _ hS
    show wpAny _ A.in1 (updateSeq S (·.push v) >>= _) _ _ _
    refine wpAny_bind ?_
    refine wpAny_updateSeq hS' rfl (wpAny_pure ⟨plainId_quiet F.plain_extend_loop _, ih (i + 1) _ (acc.push v) _ (by omega) hlt (W.frame _ s' _ s'.toks hst' fun b hb o e => ?_) (Heap.get?_update_self _ hS' rfl) (hacc.push hP) hR⟩)
      (by rw [hacc.1]; omega) (by show (acc.push v).size ≤ sizeLine + 1; rw [Array.size_push, hacc.1]; omega)
    exact (Heap.get?_update_other _ _ (Ne.symm hb)).trans e

theorem extend_genL (W : WalkL prog w A.in1 I S n P St Dn) (res : Value) (c₀ : Nat) (hst : St 0 s) (hSI : S ≠ I)
    (hS : s.heap.get? S = some { cls := .type "list", data := .seq #[] c₀ })
    (hR : ∀ s' acc' c', Dn s' → s'.heap.get? S = some { cls := .type "list", dict := none, data := .seq acc' c', slots := #[] } → ItemsOf P acc' n → R (.ok (.ret res)) s') (hn : n ≤ sizeLine) :
    wpAny (model prog w) A.in1 (Builtin.List.listExtendWith (.ref S) (.ref I) res)
      (fun fin s' => match fin with | .done f => R (.ok f) s' | .again c' => c'.quiet = true ∧ codeAny (model prog w) A c' R s') (fun e s' => R (.error e) s') s := by
  unfold Builtin.List.listExtendWith
  refine wpAny_bind (wpAny_typeOf (W.typ 0 _ hst) ?_)
  have h1 : Builtin.List.listSameRef (.ref S) (.ref I) = false := by simp [Builtin.List.listSameRef, hSI]
  have h2 : (Value.type "generator" == Value.type "list") = false := by decide
  have h3 : (Value.type "generator" == Value.type "tuple") = false := by decide
  simp only [h1, h2, h3, Bool.or_false, Bool.false_eq_true, if_false]
  refine wpAny_bind (W.self _ _ _ hst ?_)
  refine wpAny_bind (wpAny_holding ?_)
  unfold Builtin.List.listLengthHint
  refine wpAny_bind (wpAny_specialOf (W.typ 0 _ hst) F.gen_no_len ?_)
  show wpAny _ A.in1 (specialOf (Value.ref I) (Str.ofString "__length_hint__") >>= _) _ _ _
  refine wpAny_bind (wpAny_specialOf (W.typ 0 _ hst) F.gen_no_hint ?_)
  refine wpAny_pure ?_
  show wpAny _ A.in1 (rule "list.extend.makes-room" >>= fun _ => Builtin.List.listTouch (.ref S) >>= fun _ =>
    again (.builtin "list.extend.loop" ⟨[.ref S, .ref I, res], []⟩)) _ _ _
  refine wpAny_bind (wpAny_rule ?_)
  refine wpAny_bind ?_
  show wpAny _ A.in1 (updateSeq S (·.push .none) >>= fun _ => updateSeq S (·.pop)) _ _ _
  refine wpAny_bind (wpAny_updateSeq hS rfl ?_)
  have hS₂ := Heap.get?_update_self (Obj.mapSeq (·.push Value.none)) hS rfl
  refine wpAny_updateSeq (hz := by seq_fits) hS₂ rfl ?_
  have hS₃ := Heap.get?_update_self (Obj.mapSeq (·.pop)) hS₂ rfl
  have oth : ∀ b o, b ≠ S → s.heap.get? b = some o → ((s.heap.update S (Obj.mapSeq (·.push Value.none))).update S (Obj.mapSeq (·.pop))).get? b = some o :=
    fun b o hb e => (Heap.get?_update_other _ _ (Ne.symm hb)).trans ((Heap.get?_update_other _ _ (Ne.symm hb)).trans e)
  refine wpAny_pure ⟨plainId_quiet F.plain_extend_loop _, extend_loopL W hn _ n 0 _ _ _ rfl (Nat.zero_le _)
    (W.frame 0 s _ s.toks hst fun b hb o e => oth b o hb e) hS₃ (ItemsOf.nil P) hR⟩

theorem list_initL (W : WalkL prog w A.in1 I S n P St Dn) (hst : St 0 s) (hSI : S ≠ I)
    (hS : s.heap.get? S = some { cls := .type "list", data := .seq #[] })
    (hR : ∀ s' acc' c', Dn s' → s'.heap.get? S = some { cls := .type "list", dict := none, data := .seq acc' c', slots := #[] } → ItemsOf P acc' n → R (.ok (.ret .none)) s') (hn : n ≤ sizeLine) :
    wpAny (model prog w) A.in1 (Builtin.«list.__init__» ⟨[.ref S, .ref I], []⟩)
      (fun fin s' => match fin with | .done f => R (.ok f) s' | .again c' => c'.quiet = true ∧ codeAny (model prog w) A c' R s') (fun e s' => R (.error e) s') s := by
  show wpAny _ A.in1 (do let old ← Builtin.List.listItems (.ref S); Builtin.List.listUpdate (.ref S) (fun _ => #[]); letGo old.toList.reverse; Builtin.List.listExtendWith (.ref S) (.ref I) .none) _ _ s
  refine wpAny_bind ?_
  unfold Builtin.List.listItems
  refine wpAny_bind (wpAny_seqItems hS rfl (wpAny_pure ?_))
  show wpAny _ A.in1 (updateSeq S (fun _ => #[]) >>= fun _ => letGo (#[] : Array Value).toList.reverse >>= fun _ => Builtin.List.listExtendWith (.ref S) (.ref I) .none) _ _ s
  refine wpAny_bind (wpAny_updateSeq hS rfl ?_)
  have hS₂ := Heap.get?_update_self (Obj.mapSeq (fun _ => (#[] : Array Value))) hS rfl
  have oth : ∀ b o, b ≠ S → s.heap.get? b = some o → (s.heap.update S (Obj.mapSeq (fun _ => (#[] : Array Value)))).get? b = some o :=
    fun b o hb e => (Heap.get?_update_other _ _ (Ne.symm hb)).trans e
  refine wpAny_bind (wpAny_letGo ?_)
  exact extend_genL W .none _ (W.frame 0 s _ s.toks hst fun b hb o e => oth b o hb e) hSI hS₂ hR hn

theorem call_listL {Q : Value → Shared → Prop} (W : WalkL prog w A.in1.in1 I s.heap.objs.size n P St Dn) (hst : St 0 s) (hI : I < s.heap.objs.size)
    (hQ : ∀ s' acc' c', Dn s' → s'.heap.get? s.heap.objs.size = some { cls := .type "list", dict := none, data := .seq acc' c', slots := #[] } → ItemsOf P acc' n → Q (.ref s.heap.objs.size) s') (hn : n ≤ sizeLine) :
    wpAny (model prog w) A (call (.type "list") [.ref I]) Q E s := by
  refine callType_codes (Q₁ := fun obj s₁ => obj = .ref s.heap.objs.size ∧ s₁ = { s with heap := s.heap.push { cls := .type "list", data := .seq #[] } }) F.called_list (F.typeCall_list_1 _) F.entry_list_init
    (code_list_new _ ⟨rfl, rfl⟩) fun obj s₁ h₁ => ?_
  obtain ⟨rfl, rfl⟩ := h₁
  have hS : (s.heap.push { cls := .type "list", data := .seq #[] }).get? s.heap.objs.size = some { cls := .type "list", data := .seq #[] } := Heap.get?_push_size _ rfl
  refine ⟨⟨_, hS, rfl⟩, F.args_list_init_2 _ _, list_initL W (W.frame 0 s _ s.toks hst fun b _ o e => Heap.get?_push_of_some _ e) (Nat.ne_of_gt hI) hS (fun s' acc' c' hd hS' hacc => ⟨rfl, hQ s' acc' c' hd hS' hacc⟩) hn⟩
end

section
variable {M : Model} {A : Around} {R : GenEnd} {Y : Protocol} {n : Nat} {s₀ : Shared} {c : Code} {fs : List Frame} {s : Shared} {env : Env}
  {K : Flow → Sem Fin} {H : Value → Sem Fin} {gd : Bool → Bool} {lv : List Value → List Value}
/-- some statements without a yield, then the rest -/
theorem seg_stmts : ∀ {p q : List Stmt} {s : Shared}, wpAny M (A.over c fs) (execs p env) (fun f s' => match f with
      | .next => Seg M A R Y n s₀ c ((execs q env).wrap K H gd lv) fs s' | f => Seg M A R Y n s₀ c (K f) fs s') (fun x s' => Seg M A R Y n s₀ c (H x) fs s') s →
    Seg M A R Y n s₀ c ((execs (p ++ q) env).wrap K H gd lv) fs s
  | p, q, s, h => by
    have e : (execs (p ++ q) env).wrap K H gd lv = (execs p env).wrap (fun f => match f with | .next => (execs q env).wrap K H gd lv | f => K f) H gd lv := by
      clear h
      induction p with
      | nil => rfl
      | cons st p ih =>
        rw [List.cons_append, execs_cons_wrap, execs_cons_wrap]
        exact Sem.wrap_congr _ _ _ (fun f => by cases f <;> first | exact ih | rfl) fun _ => rfl
    rw [e]
    exact seg_wrap (wpAny_mono h (fun f s' hf => by cases f <;> exact hf) fun _ _ e => e)
theorem seg_For {target : Expr} {iter : Expr} {body : List Stmt} {pos : Pos} {rest : List Stmt}
    (h : wpAny M (A.over c fs) (eval iter env) (fun x s₁ => wpAny M (A.over c fs) (pyIter x) (fun it s₂ => ∀ p,
      Seg M A R Y n s₀ (.forLoop target it body [] env) (M.den (.forLoop target it body [] env))
      (.ret (fun r => ((match r with | .ok f => (.pure f : Sem Flow) | .error e => .raise e).onRaise fun (x : Value) => do
        if (← field x 1) == Value.none then unsupported "frame.own-activation:exception-without-traceback"
        setFlight x env.frame).wrap (fun (f : Flow) => match f with | .next => (execs rest env).wrap K H gd lv | f => K f) H gd lv) none (gd false) (lv []) c p [] :: fs) s₂) (fun x s' => Seg M A R Y n s₀ c (H x) fs s') s₁) (fun x s' => Seg M A R Y n s₀ c (H x) fs s') s)
    (hs : ∀ x, foldedSetIterable iter env x = pure x := by intro _; rfl) :
    Seg M A R Y n s₀ c ((execs (.For target iter body [] pos :: rest) env).wrap K H gd lv) fs s := by
  refine seg_execs_cons ?_
  rw [arm_exec_For]
  refine seg_bind_wrap (wpAny_standAt ?_)
  refine seg_bind_wrap (wpAny_mono h (fun x s₁ h₁ => ?_) fun _ _ e => e)
  refine seg_bind_wrap (wpAny_of_eq (hs x) ?_)
  refine seg_bind_wrap (wpAny_standAt ?_)
  refine seg_bind_wrap (wpAny_holding (wpAny_mono h₁ (fun it s₂ h₂ => ?_) fun _ _ e => e))
  exact seg_call h₂
end

section
variable {prog : Program} {w : World} {A : Around} {R : GenEnd} {Y : Protocol} {n : Nat} {s₀ : Shared} {fs : List Frame} {s : Shared} {env : Env}
theorem seg_forTurn {x : Str} {px : Pos} {I : Addr} {body : List Stmt}
    (h : wpAny (model prog w) (A.over (.forLoop (.Name x px) (.ref I) body [] env) fs) (pyNext (.ref I)) (fun r s' => match r with
        | none => Seg (model prog w) A R Y n s₀ (.block [] env) ((model prog w).den (.block [] env)) fs s'
        | some v => wpAny (model prog w) (A.over (.forLoop (.Name x px) (.ref I) body [] env) fs) (assign (.Name x px) env v) (fun _ s₂ =>
            Seg (model prog w) A R Y n s₀ (.forLoop (.Name x px) (.ref I) body [] env) ((execs body env).wrap (fun f => match f with
            | .next | .cont => .pure (.again (.forLoop (.Name x px) (.ref I) body [] env))
            | .brk => .pure (.done .next)
            | .ret v => .pure (.done (.ret v))) (fun e => (do noteFrame e env; theTreesLotGoes e : Sem Unit).wrap (fun _ => .raise e) .raise id id) id id) fs s₂) (fun _ _ => False) s') (fun _ _ => False) s) :
    Seg (model prog w) A R Y n s₀ (.forLoop (.Name x px) (.ref I) body [] env) ((model prog w).den (.forLoop (.Name x px) (.ref I) body [] env)) fs s := by
  show Seg _ A R Y n s₀ _ ((forTurn (.Name x px) (.ref I) body [] env).onRaise (fun x => do noteFrame x env; theTreesLotGoes x)) fs s
  unfold forTurn
  rw [Sem.onRaise_eq_wrap]
  refine seg_bind_wrap (wpAny_standAt ?_)
  refine seg_bind_wrap (wpAny_onRaise (wpAny_mono h (fun r s' hr => ?_) fun _ _ e => e.elim))
  cases r with
  | none => exact seg_again rfl hr
  | some v =>
    refine seg_bind_wrap (wpAny_of_eq (rfl : letOwnedTupleGo (.Name x px) (.ref I) v = pure ()) ?_)
    refine seg_bind_wrap (wpAny_mono hr (fun _ s₂ h₂ => ?_) fun _ _ e => e.elim)
    rw [Sem.bind_eq_wrap', Sem.wrap_wrap]
    rw [Sem.wrap_congr (execs body env) _ _ (K' := fun f => match f with
            | .next | .cont => .pure (.again (.forLoop (.Name x px) (.ref I) body [] env))
            | .brk => .pure (.done .next)
            | .ret v => .pure (.done (.ret v))) (H' := (fun e => (do noteFrame e env; theTreesLotGoes e : Sem Unit).wrap (fun _ => .raise e) .raise id id))
        (fun f => by cases f <;> rfl)
        (fun e => by first | exact Sem.bind_eq_wrap _ _ | (show (do noteFrame e env; theTreesLotGoes e : Sem Unit).bind (fun _ => .raise e) = _; rw [Sem.bind_eq_wrap]))]
    exact h₂
theorem seg_blockNil {k : Result → Sem Fin} {hd : Option Value} {g : Bool} {l : List Value} {c₁ : Code} {p₁ : Pos} {kp : List Value} (h : Seg (model prog w) A R Y n s₀ c₁ (k (.ok .next)) fs s) :
    Seg (model prog w) A R Y n s₀ (.block [] env) ((model prog w).den (.block [] env)) (.ret k hd g l c₁ p₁ kp :: fs) s := by
  show Seg _ A R Y n s₀ _ (leafOf (.ok .next)) _ s
  exact seg_leaf _ h
end
end Mine

namespace Mine
/-- what a generator's run has kept since s₀ -/
def GK (S : Addr) (g : Heap) (C : Addr) (news : List (Addr × Obj)) (s₀ s : Shared) : Prop :=
  ∃ h tk m, s = { s₀ with heap := h, toks := tk } ∧ (∀ o, s₀.heap.get? S = some o → h.get? S = some o) ∧ Fr g C h m ∧ News g C h news
def genR (S : Addr) (g : Heap) (C : Addr) (news : List (Addr × Obj)) : GenEnd := fun m s₀ r s₁ => r = .ok (.ret .none) ∧ m = 0 ∧ GK S g C news s₀ s₁
def genY (S : Addr) (g : Heap) (C : Addr) (news : List (Addr × Obj)) (n : Nat) (F : Nat → Value → Prop) : Protocol := fun m s₀ v s kap =>
  F (n - 1 - m) v ∧ GK S g C news s₀ s ∧ ∀ s'' : Shared, (∀ b, b ≠ S → ∀ o, s.heap.get? b = some o → s''.heap.get? b = some o) → (∃ o, s''.heap.get? S = some o) → kap (.send .none) s''
def OneEnd (g : Heap) (C : Addr) (led : List (Addr × Obj)) (Fi : Value → Prop) (Jm : (Str → Option Value) → Prop) (s : Shared) (y : Value) (s'' : Shared) : Prop :=
  Fi y ∧ ∃ h' tk' m', s'' = { s with heap := h', toks := tk' } ∧ Fr g C h' m' ∧ News g C h' led ∧ Jm m'
def TwoEnd (g : Heap) (C : Addr) (led : List (Addr × Obj)) (Jm : (Str → Option Value) → Prop) (s : Shared) (f : Flow) (s' : Shared) : Prop :=
  f = .next ∧ ∃ h' tk' m', s' = { s with heap := h', toks := tk' } ∧ Fr g C h' m' ∧ News g C h' led ∧ Jm m'
/-- a turn's two halves, about the yield -/
structure Half (prog : Program) (w : World) (d u : Nat) (env : Env) (x : Str) (b1 : List Stmt) (e : Expr) (b2 : List Stmt) (g : Heap) (news : List (Addr × Obj)) (n : Nat) (P F : Nat → Value → Prop) (J J1 : Nat → (Str → Option Value) → Prop) : Prop where
  one : ∀ (A : Around) (E : Value → Shared → Prop) (s : Shared) (own : List (Addr × Obj)) i v m, A.handled = none → A.depth ≤ d → A.units ≤ u → i < n → P i v → J i m → Fr g env.locals s.heap (fun y => if y = x then some v else m y) → News g env.locals s.heap (own ++ news) →
    wpAny (model prog w) A (execs b1 env) (fun f s' => f = .next ∧ wpAny (model prog w) A (eval e env) (OneEnd g env.locals (own ++ news) (F i) (J1 i) s) E s') E s
  two : ∀ (A : Around) (E : Value → Shared → Prop) (s : Shared) (own : List (Addr × Obj)) i m, A.handled = none → A.depth ≤ d → A.units ≤ u → i < n → J1 i m → Fr g env.locals s.heap m → News g env.locals s.heap (own ++ news) →
    wpAny (model prog w) A (execs b2 env) (TwoEnd g env.locals (own ++ news) (J (i + 1)) s) E s

section
variable {prog : Program} {w : World} {A : Around} {env : Env} {g : Heap} {S It : Addr} {fp wr : List Addr} {n : Nat} {P F : Nat → Value → Prop} {St : Nat → Heap → Prop} {J J1 : Nat → (Str → Option Value) → Prop} {news : List (Addr × Obj)} {d u : Nat}
theorem own_kept {C : Addr} {fs : List Addr} {h h' : Heap} {m m' : Str → Option Value} (F₁ : Fr g C h m) (F₂ : Fr g C h' m') (N : News g C h' (ownOf g fs h ++ news)) : ∀ b ∈ fs, ∀ o, h.get? b = some o → h'.get? b = some o := fun b hb o e => by
  cases q : g.get? b with
  | some o₀ => have := F₁.keep b o₀ q; rw [e] at this; cases this; exact F₂.keep b _ q
  | none => exact (N _ (List.mem_append_left _ (mem_ownOf hb q e))).1

set_option maxHeartbeats 1000000 in
theorem seg_genFor {x : Str} {px ypos epos : Pos} {b1 b2 : List Stmt} {e : Expr} {k : Result → Sem Fin} {l : List Value} {c₁ : Code} {p₁ : Pos} {kp : List Value}
    (hh : A.handled = none) (W : ∀ A' : Around, A'.handled = none → Walks prog w A' It fp wr n P St) (H : Half prog w d u env x b1 e b2 g news n P F J J1)
    (hd : (A.over (.forLoop (.Name x px) (.ref It) (b1 ++ .Expr (.Yield (some e) ypos) epos :: b2) [] env) [.ret k none false l c₁ p₁ kp]).depth ≤ d)
    (hu : (A.over (.forLoop (.Name x px) (.ref It) (b1 ++ .Expr (.Yield (some e) ypos) epos :: b2) [] env) [.ret k none false l c₁ p₁ kp]).units ≤ u)
    (hx : env.kindOf x = some .local) (hp : (env.scope.kind == .class || (env.scope.kind == .module && env.locals != env.globals)) = false)
    (hco : env.scope.isCoroutine = false) (hint : interactive env = false) (hCf : env.locals ∉ S :: fp) (hSf : S ∉ fp) (hgS : g.get? S = none) (hwr : ∀ b ∈ wr, g.get? b = none) (hnw : ∀ p ∈ news, p.1 ∉ wr) (hnS : ∀ p ∈ news, p.1 ≠ S)
    (hk : ∀ s₀ s, GK S g env.locals news s₀ s → Seg (model prog w) A (genR S g env.locals news) (genY S g env.locals news n F) 0 s₀ c₁ (k (.ok .next)) [] s) :
    ∀ (q i : Nat) (s₀ s : Shared) (m : Str → Option Value), n - i = q → i ≤ n → St i s.heap → J i m → Fr g env.locals s.heap m → News g env.locals s.heap news → (∃ h tk, s = { s₀ with heap := h, toks := tk }) → (∀ o, s₀.heap.get? S = some o → s.heap.get? S = some o) →
      Seg (model prog w) A (genR S g env.locals news) (genY S g env.locals news n F) q s₀ (.forLoop (.Name x px) (.ref It) (b1 ++ .Expr (.Yield (some e) ypos) epos :: b2) [] env)
        ((model prog w).den (.forLoop (.Name x px) (.ref It) (b1 ++ .Expr (.Yield (some e) ypos) epos :: b2) [] env)) [.ret k none false l c₁ p₁ kp] s := by
  have hh' : ∀ c, (A.over c [.ret k none false l c₁ p₁ kp]).handled = none := fun c => by
    show (marksOver [.ret k none false l c₁ p₁ kp] (A.handled, A.handled)).1 = none
    rw [hh]; rfl
  have Wf := W ⟨none, 0, none, none, 0⟩ rfl
  have hCw : env.locals ∉ wr := fun h => hCf (List.mem_cons_of_mem _ (Wf.sub _ h))
  have hSw : S ∉ wr := fun h => hSf (Wf.sub _ h)
  have old : ∀ b o, g.get? b = some o → b ∉ wr := fun b o e hb => by rw [hwr b hb] at e; cases e
  intro q
  induction q with
  | zero =>
    intro i s₀ s m hq hi hst hJ Fr₀ N₀ hs hS
    have hin : i = n := by omega
    subst hin
    obtain ⟨h₀, t₀, rfl⟩ := hs
    refine seg_forTurn ((W _ (hh' _)).done _ _ _ hst fun h' tk hk' => ?_)
    refine seg_blockNil (hk _ _ ⟨h', tk, m, rfl, fun o e => hk' _ o hSw (hS o e), ?_, ?_⟩)
    · exact ⟨Fr₀.ns.at' fun o e => hk' _ o hCw e, fun b o e => hk' b o (old b o e) (Fr₀.keep b o e), Fr₀.above⟩
    · exact fun p hp => ⟨hk' _ _ (hnw p hp) (N₀ p hp).1, (N₀ p hp).2⟩
  | succ q ih =>
    intro i s₀ s m hq hi hst hJ Fr₀ N₀ hs hS
    have hlt : i < n := by omega
    obtain ⟨h₀, t₀, rfl⟩ := hs
    refine seg_forTurn ((W _ (hh' _)).item i _ _ _ hlt hst fun v h₁ tk₁ hP hst₁ hk₁ => ?_)
    have F₁ : Fr g env.locals h₁ m := ⟨Fr₀.ns.at' fun o e => hk₁ _ o hCw e, fun b o e => hk₁ b o (old b o e) (Fr₀.keep b o e), Fr₀.above⟩
    have N₁ : News g env.locals h₁ news := fun p hp => ⟨hk₁ _ _ (hnw p hp) (N₀ p hp).1, (N₀ p hp).2⟩
    have hS₁ : ∀ o, s₀.heap.get? S = some o → h₁.get? S = some o := fun o e => hk₁ _ o hSw (hS o e)
    refine wpAny_assign_Name (wpAny_storeName_local hx F₁.ns (fun h₂ hn₂ hs₂ => ?_) hp)
    have F₂ := F₁.set hn₂ hs₂
    have hst₂ : St (i + 1) h₂ := Wf.frame _ _ _ hst₁ fun b hb o e => (hs₂.2 b fun q => hCf (q ▸ List.mem_cons_of_mem _ hb)).trans e
    have hS₂ : ∀ o, s₀.heap.get? S = some o → h₂.get? S = some o := fun o e => (hs₂.2 S fun q => hCf (q ▸ List.mem_cons_self ..)).trans (hS₁ o e)
    have Nown : News g env.locals h₂ (ownOf g (S :: fp) h₂) := news_ownOf hCf
    have N₂ := Nown.append (N₁.set hs₂)
    refine seg_stmts (wpAny_mono (H.one _ _ _ _ i v m (hh' _) hd hu hlt hP hJ F₂ N₂) (fun f s' hf => ?_) fun _ _ e => e)
    obtain ⟨rfl, hy⟩ := hf
    dsimp only
    refine seg_execs_cons (seg_Expr_Yield rfl rfl rfl (wpAny_mono hy (fun y s'' hy' kap hkap => ?_) fun _ _ e => e) hco hint)
    obtain ⟨hF, h₃, tk₃, m₃, rfl, F₃, N₃, hJ₃⟩ := hy'
    have ke := own_kept F₂ F₃ N₃
    have e1 : n - 1 - q = i := by omega
    refine ⟨e1 ▸ hF, ⟨h₃, tk₃, m₃, rfl, fun o e => ke S (List.mem_cons_self ..) o (hS₂ o e), F₃, N₃.right⟩, fun s'' hal _ => hkap _ _ ?_⟩
    have hst₃ : St (i + 1) h₃ := Wf.frame _ _ _ hst₂ fun b hb o e => ke b (List.mem_cons_of_mem _ hb) o e
    have hCS : env.locals ≠ S := fun q => hCf (q ▸ List.mem_cons_self ..)
    have F₄ : Fr g env.locals s''.heap m₃ := ⟨F₃.ns.at' fun o e => hal _ hCS o e, fun b o e => hal b (fun q => by rw [q, hgS] at e; cases e) o (F₃.keep b o e), F₃.above⟩
    have hst₄ : St (i + 1) s''.heap := Wf.frame _ _ _ hst₃ fun b hb o e => hal b (fun q => hSf (q ▸ hb)) o e
    have Nown₄ : News g env.locals s''.heap (ownOf g (S :: fp) s''.heap) := news_ownOf hCf
    have N₄ : News g env.locals s''.heap news := fun p hp => ⟨hal _ (hnS p hp) _ (N₃.right p hp).1, (N₃.right p hp).2⟩
    show Seg _ _ _ _ _ _ _ ((execs b2 env).wrap _ _ _ _) _ _
    refine seg_wrap (wpAny_mono (H.two _ _ _ _ i m₃ (hh' _) hd hu hlt hJ₃ F₄ (Nown₄.append N₄)) (fun f s₅ hf => ?_) fun _ _ e => e)
    obtain ⟨rfl, h₅, tk₅, m₅, rfl, F₅, N₅, hJ₅⟩ := hf
    have ke₅ := own_kept F₄ F₅ N₅
    exact seg_again rfl (ih (i + 1) s'' _ m₅ (by omega) hlt (Wf.frame _ _ _ hst₄ fun b hb o e => ke₅ b (List.mem_cons_of_mem _ hb) o e) hJ₅ F₅ N₅.right ⟨_, _, rfl⟩ fun o e => ke₅ S (List.mem_cons_self ..) o e)
end
end Mine

namespace Mine
section
variable {prog : Program} {w : World} {A : Around} {E : Value → Shared → Prop} {s : Shared}
theorem pyNext_genQ {a : Addr} {g n : Nat} {gs : GenState} {P : Nat → Shared → Shared → Prop} {Y : Protocol} {Q : Option Value → Shared → Prop} (hh : A.handled = none)
    (hl : s.heap.NoLimit) (hroom : A.depth < recursionLimit)
    (hg : s.heap.IsGen a g) (hgs : s.gens[g]? = some gs)
    (hgo : gs.Goes (model prog w) A.in1 (fun n s₀ r s₁ => r = .ok (.ret .none) ∧ P n s₀ s₁) Y n (.send .none) (s.setGen g .running))
    (hY : ∀ v s₁ gs', gs'.bare = true → Y (n - 1) (s.setGen g .running) v s₁ (fun r' s'' => match n with
        | 0 => False
        | m + 1 => gs'.Goes (model prog w) A.in1 (fun n s₀ r s₁ => r = .ok (.ret .none) ∧ P n s₀ s₁) Y m r' s'') → Q (some v) (s₁.setGen g gs'))
    (hP : ∀ s₁, P n (s.setGen g .running) s₁ → ∀ h', (∀ b o, s₁.heap.get? b = some o → h'.get? b = some o) → Q none { s₁.setGen g .finished with heap := h' }) :
    wpAny (model prog w) A (pyNext (.ref a)) Q E s := by
  unfold pyNext
  refine wpAny_bind (wpAny_attempt (wpAny_callSpecial?_slot (name := Str.ofString "__next__") hg.typeIs slot_gen_next
    (wpAny_call_entry slot_gen_next hg.typeIs entry_gen_next ?_ (args_gen_next _))))
  show wpAny _ A.in1 (Builtin.Generator.genWake (.ref a) (.send .none)) _ _ s
  unfold Builtin.Generator.genWake
  refine wpAny_bind (wpAny_holding (wpAny_genNumber hg (wpAny_bind (wpAny_genState hgs ?_))))
  cases gs with
  | running => exact hgo.elim
  | finished => exact hgo.elim
  | _ =>
    refine wpAny_bind (wpAny_roomToWake hl hroom ?_)
    show wpAny _ A.in1 (.resume g (.send .none) [] _) _ _ s
    refine wpAny_resumeQ hgs hgo (fun x s₁ hx => ?_) (fun v s₁ gs' hb hv => ?_)
    · obtain ⟨rfl, hp⟩ := hx
      show wpAny _ A.in1 (newExc (.type "StopIteration") [] >>= _) _ _ _
      refine wpAny_bind ?_
      simp only [newExc, newTuple]
      refine wpAny_bind (wpAny_newObj_type ?_ (by size_fits))
      refine wpAny_bind (m := firstArgMember _ _) (wpAny_of_eq (a := Value.none) (by first | rfl | (simp only [firstArgMember]; rfl)) ?_)
      refine wpAny_newObj_type ?_ (by size_fits)
      simp only [raiseNew]
      refine wpAny_bind (wpAny_bind (wpAny_handled ?_))
      first | rw [show A.in1.handled = none from hh] | rw [hh]
      refine wpAny_throw ?_
      refine wpAny_bind (wpAny_isInstance (T := "StopIteration") (b := true) ⟨_, Heap.get?_push_size _ rfl, rfl⟩ isSubtype_stop ?_)
      exact wpAny_pure (hP s₁ hp _ fun b o hb => Heap.get?_push_of_some _ (Heap.get?_push_of_some _ hb))
    · exact wpAny_pure ⟨v, rfl, wpAny_pure (hY v s₁ gs' hb hv)⟩
end

abbrev gobj (gn : Nat) (nm qn : Value) : Obj := { cls := .type "generator", data := .fields #[.int gn 0, nm, qn] }
/-- what stands between a generator's steps -/
structure GBase (S : Addr) (g : Heap) (C : Addr) (news : List (Addr × Obj)) (gn : Nat) (sB s : Shared) : Prop where
  fr : ∃ m, Fr g C s.heap m
  nw : News g C s.heap news
  drawn : s.drawn = sB.drawn
  os : s.os = sB.os
  gens : GenOnlyQ gn sB.gens s.gens

section
variable {prog : Program} {w : World} {A : Around} {g : Heap} {S C I : Addr} {gn n : Nat} {F : Nat → Value → Prop} {news : List (Addr × Obj)} {sB : Shared} {nm qn : Value}
def GSt (prog : Program) (w : World) (A : Around) (S : Addr) (g : Heap) (C : Addr) (news : List (Addr × Obj)) (gn n : Nat) (F : Nat → Value → Prop) (sB : Shared) (i : Nat) (s : Shared) : Prop :=
  GBase S g C news gn sB s ∧ ∃ gs, s.gens[gn]? = some gs ∧ ∀ s'' : Shared, (∀ b, b ≠ S → ∀ o, s.heap.get? b = some o → s''.heap.get? b = some o) → (∃ o, s''.heap.get? S = some o) →
    gs.Goes (model prog w) A.in1 (genR S g C news) (genY S g C news n F) (n - i) (.send .none) s''
theorem GBase.off {s : Shared} (x : GBase S g C news gn sB s) (hCS : C ≠ S) (hgS : g.get? S = none) (hnS : ∀ p ∈ news, p.1 ≠ S) {h' : Heap} {tk : Nat} (hk : ∀ b, b ≠ S → ∀ o, s.heap.get? b = some o → h'.get? b = some o) : GBase S g C news gn sB { s with heap := h', toks := tk } :=
  ⟨let ⟨m, F⟩ := x.fr; ⟨m, F.ns.at' fun o e => hk _ hCS o e, fun b o e => hk b (fun q => by rw [q, hgS] at e; cases e) o (F.keep b o e), F.above⟩, fun p hp => ⟨hk _ (hnS p hp) _ (x.nw p hp).1, (x.nw p hp).2⟩, x.drawn, x.os, x.gens⟩

theorem genWalk (hh : A.handled = none) (hroom : A.depth < recursionLimit) (hl : g.NoLimit) (hCS : C ≠ S) (hgS : g.get? S = none) (hnS : ∀ p ∈ news, p.1 ≠ S) (hI : (I, gobj gn nm qn) ∈ news) :
    WalkL prog w A I S n F (GSt prog w A S g C news gn n F sB) (GBase S g C news gn sB) where
  frame := fun i s h' tk st hk => ⟨st.1.off hCS hgS hnS hk, let ⟨gs, hgs, hgo⟩ := st.2; ⟨gs, hgs, fun s'' hal hex => hgo s'' (fun b hb o e => hal b hb o (hk b hb o e)) hex⟩⟩
  typ := fun i s st => ⟨_, (st.1.nw _ hI).1, rfl⟩
  self := fun s Q E st hQ => wpAny_pyIter_gen (g := gn) ⟨_, nm, qn, (st.1.nw _ hI).1, rfl, rfl, rfl⟩ hQ
  item := fun j s Q E hj st hex hQ => by
    obtain ⟨B, gs, hgs, hgo⟩ := st
    obtain ⟨m, hm⟩ : ∃ m, n - j = m + 1 := ⟨n - j - 1, by omega⟩
    rw [hm] at hgo
    obtain ⟨m₀, F₀⟩ := B.fr
    refine pyNext_genQ (g := gn) (P := fun n s₀ s₁ => n = 0 ∧ GK S g C news s₀ s₁) hh (hl.keeps F₀.keep) hroom ⟨_, nm, qn, (B.nw _ hI).1, rfl, rfl, rfl⟩ hgs (hgo _ (fun _ _ _ e => e) hex) (fun v s₁ gs' hb hv => ?_) (fun s₁ hp h' hk => ?_)
    · obtain ⟨hF, ⟨h₁, tk₁, m₁, rfl, hS₁, F₁, N₁⟩, hkap⟩ := hv
      have hidx : n - 1 - (m + 1 - 1) = j := by omega
      rw [hidx] at hF
      have hself := setGen_self (gs := .running) (x := gs') (setGen_self (x := .running) hgs)
      refine hQ v _ hF ⟨⟨⟨m₁, F₁⟩, N₁, B.drawn, B.os, B.gens.trans (GenOnlyQ.of ((GenOnly.setGen s gn .running).trans (GenOnly.setGen _ gn gs')) hself hb)⟩, gs', hself, fun s'' hal hex' => ?_⟩ hS₁
      have e : n - (j + 1) = m := by omega
      rw [e]
      exact hkap s'' hal hex'
    · exact absurd hp.1 (Nat.succ_ne_zero m)
  done := fun s Q E st hex hQ => by
    obtain ⟨B, gs, hgs, hgo⟩ := st
    rw [Nat.sub_self] at hgo
    obtain ⟨m₀, F₀⟩ := B.fr
    refine pyNext_genQ (g := gn) (P := fun n s₀ s₁ => n = 0 ∧ GK S g C news s₀ s₁) hh (hl.keeps F₀.keep) hroom ⟨_, nm, qn, (B.nw _ hI).1, rfl, rfl, rfl⟩ hgs (hgo _ (fun _ _ _ e => e) hex) (fun v s₁ gs' hb hv => ?_) (fun s₁ hp h' hk => ?_)
    · obtain ⟨_, hGK, hkap⟩ := hv
      obtain ⟨o, ho⟩ := hex
      exact False.elim (hkap s₁ (fun _ _ _ e => e) ⟨o, by obtain ⟨_, _, _, rfl, hS, _⟩ := hGK; exact hS o ho⟩)
    · obtain ⟨_, h₁, tk₁, m₁, rfl, hS₁, F₁, N₁⟩ := hp
      have hself := setGen_self (gs := .running) (x := .finished) (setGen_self (x := .running) hgs)
      exact hQ _ ⟨⟨m₁, ⟨F₁.ns.at' fun o e => hk _ _ e, fun b o e => hk _ _ (F₁.keep b o e), F₁.above⟩⟩, fun p hp => ⟨hk _ _ (N₁ p hp).1, (N₁ p hp).2⟩, B.drawn, B.os, B.gens.trans (GenOnlyQ.of ((GenOnly.setGen s gn .running).trans (GenOnly.setGen _ gn .finished)) hself rfl)⟩ fun o e => hk _ _ (hS₁ o e)
end

section
variable {prog : Program} {w : World} {A : Around} {s : Shared} {K : Frag} {R : Result → Shared → Prop} {name qual : Str} {params : Arguments} {body : List Stmt} {scope : Scope} {dV kV doc pm cdv ct oc : Value} {an od : Option Addr} {osl : Array (Option Value)} {f : Addr} {args : Args} {binds : List (Str × Value)}
/-- a call of a generator def of the text's: a frame and a generator object stand new -/
theorem enterGen {g : Heap} {news : List (Addr × Obj)} (X : K.In g) (hg : g.StaysIn s.heap) (hsz : g.objs.size ≤ s.heap.objs.size) (hN : ∀ p ∈ news, s.heap.get? p.1 = some p.2 ∧ g.get? p.1 = none)
    (hlim : g.NoLimit) (hroom : A.depth < recursionLimit)
    (ho : K.lookup f = some ⟨oc, od, .func (fnOf name qual params body scope dV kV doc pm an cdv ct), osl⟩) (hcd : codeIn K cdv qual = true)
    (hbind : BindsTo s (fnOf name qual params body scope dV kV doc pm an cdv ct) args binds) (hloc : ∀ y ∈ binds, scope.names.lookup y.1 = some .local)
    (h : ∀ C h₁ tk nm qn, C = s.heap.objs.size → Fr g C h₁ (fun y => binds.reverse.lookup y) → News g C h₁ ((C + 1, gobj s.gens.size nm qn) :: news) → s.heap.StaysIn h₁ → h₁.objs.size = C + 2 →
      R (.ok (.ret (.ref (C + 1)))) { s with heap := h₁, toks := tk, gens := s.gens.push (.fresh (.func body (envOf qual scope C f cdv))) })
    (hco : scope.isCoroutine = false) (hgen : scope.isGenerator = true) (hk : scope.kind = .function)
    (hcell : ∀ x ∈ scope.names, x.2 ≠ .cell) : codeAny (model prog w) A (.call (.ref f) args) R s := by
  refine codeAny_call_generator (fd := fnOf name qual params body scope dV kV doc pm an cdv ct) (body := body) hroom (hg _ _ (X _ _ ho)) rfl hco hgen rfl ((codeRec_of X hcd).keeps hg) (hbind _ _ _ _ ?_)
  refine wpAny_newFunctionEnv hcell hloc (fun h' hns hsb => ?_) hk
  have keep' : ∀ b o, s.heap.get? b = some o → h'.get? b = some o := fun b o e => hsb.extBut b o (Nat.ne_of_lt (Heap.lt_size e)) (Heap.get?_push_of_some _ e)
  have hsz' : h'.objs.size = s.heap.objs.size + 1 := by rw [hsb.1, Heap.size_push]
  refine ⟨(hlim.keeps hg).keeps keep', ?_⟩
  have hFr : ∀ o, Fr g s.heap.objs.size (h'.push o) (fun y => binds.reverse.lookup y) := fun o => ⟨hns.push _, fun b o e => Heap.get?_push_of_some _ (keep' _ _ (hg _ _ e)), hsz⟩
  have hNw : ∀ nm qn, News g s.heap.objs.size (h'.push (gobj s.gens.size nm qn)) ((s.heap.objs.size + 1, gobj s.gens.size nm qn) :: news) := fun nm qn p hp => by
    rcases List.mem_cons.mp hp with rfl | hp
    · refine ⟨?_, Nat.succ_ne_self _, ?_⟩
      · show Heap.get? (Heap.push h' _) (s.heap.objs.size + 1) = _
        rw [← hsz']; exact Heap.get?_push_size _ rfl
      · cases q : g.get? (s.heap.objs.size + 1) with
        | none => rfl
        | some o => exact absurd (Heap.lt_size q) (show ¬ s.heap.objs.size + 1 < g.objs.size by omega)
    · exact ⟨Heap.get?_push_of_some _ (keep' _ _ (hN p hp).1), Nat.ne_of_lt (Heap.lt_size (hN p hp).1), (hN p hp).2⟩
  have hq := h _ _ (s.toks + binds.length + 1 + 1) (.str name (s.toks + binds.length)) (.str qual (s.toks + binds.length + 1)) rfl (hFr _) (hNw _ _) (fun b o e => Heap.get?_push_of_some _ (keep' _ _ e)) (by rw [Heap.size_push, hsz'])
  rw [← hsz'] at hq
  exact hq
end

section
variable {prog : Program} {w : World} {A : Around} {g : Heap} {C I : Addr} {gn n : Nat} {F : Nat → Value → Prop} {news : List (Addr × Obj)} {nm qn : Value} {s : Shared} {E Q : Value → Shared → Prop} {body : List Stmt} {env : Env} {m₀ : Str → Option Value}
/-- list(gen), the generator new -/
theorem list_of_gen (hh : A.handled = none) (hroom : A.depth < recursionLimit) (hl : g.NoLimit) (F₀ : Fr g C s.heap m₀) (N₀ : News g C s.heap news) (hI : (I, gobj gn nm qn) ∈ news) (hsz : s.heap.objs.size = C + 2) (hgs : s.gens[gn]? = some (.fresh (.func body env)))
    (hseg : ∀ s'' : Shared, Fr g C s''.heap m₀ → News g C s''.heap news → (∃ o, s''.heap.get? s.heap.objs.size = some o) →
      Seg (model prog w) A.in1.in1.in1 (genR s.heap.objs.size g C news) (genY s.heap.objs.size g C news n F) n s'' (.func body env) ((model prog w).den (.func body env)) [] s'') (hn : n ≤ sizeLine)
    (hQ : ∀ s' acc c, GBase s.heap.objs.size g C news gn s s' → s'.heap.get? s.heap.objs.size = some { cls := .type "list", dict := none, data := .seq acc c, slots := #[] } → ItemsOf F acc n → Q (.ref s.heap.objs.size) s') :
    wpAny (model prog w) A (call (.type "list") [.ref I]) Q E s := by
  have hgS : g.get? s.heap.objs.size = none := by
    cases q : g.get? s.heap.objs.size with
    | none => rfl
    | some o => exact absurd (Heap.lt_size q) (Nat.not_lt.mpr (Nat.le_trans F₀.above (hsz ▸ Nat.le_add_right _ _)))
  have hnS : ∀ p ∈ news, p.1 ≠ s.heap.objs.size := fun p hp => Nat.ne_of_lt (Heap.lt_size (N₀ p hp).1)
  have hCS : C ≠ s.heap.objs.size := fun q => absurd (q.trans hsz) (Nat.ne_of_lt (Nat.lt_add_of_pos_right (by decide)))
  have W := genWalk (prog := prog) (w := w) (A := A.in1.in1) (F := F) (n := n) (sB := s) hh hroom hl hCS hgS hnS hI
  refine call_listL W ⟨⟨⟨m₀, F₀⟩, N₀, rfl, rfl, .inl rfl⟩, _, hgs, fun s'' hal hex => ⟨rfl, ?_⟩⟩ (Heap.lt_size (N₀ _ hI).1) (fun s' acc c hd hS hI => hQ s' acc c hd hS hI) hn
  exact hseg s'' ⟨F₀.ns.at' fun o e => hal _ hCS o e, fun b o e => hal b (fun q => by rw [q, hgS] at e; cases e) o (F₀.keep b o e), F₀.above⟩ (fun p hp => ⟨hal _ (hnS p hp) _ (N₀ p hp).1, (N₀ p hp).2⟩) hex

/-- where the loop of a generator starts -/
def GStart (prog : Program) (w : World) (d u : Nat) (env : Env) (x : Str) (b1 : List Stmt) (e : Expr) (b2 : List Stmt) (S : Addr) (g : Heap) (own news : List (Addr × Obj)) (n : Nat) (F : Nat → Value → Prop) (s₀ : Shared) (it : Value) (s₂ : Shared) : Prop :=
  ∃ It fp wr P St J J1 m, it = .ref It ∧ (∀ A' : Around, A'.handled = none → Walks prog w A' It fp wr n P St) ∧ env.locals ∉ S :: fp ∧ S ∉ fp ∧ (∀ b ∈ wr, g.get? b = none) ∧ (∀ p ∈ news, p.1 ∉ wr) ∧ St 0 s₂.heap ∧ J 0 m ∧
    Fr g env.locals s₂.heap m ∧ News g env.locals s₂.heap (own ++ news) ∧ (∃ h tk, s₂ = { s₀ with heap := h, toks := tk }) ∧ Half prog w d u env x b1 e b2 g news n P F J J1

theorem w_func (b : List Stmt) (e : Env) : (Code.func b e).weight = 1 := rfl
theorem w_for (t : Expr) (i : Value) (b o : List Stmt) (e : Env) : (Code.forLoop t i b o e).weight = 0 := rfl
theorem u_func (b : List Stmt) (e : Env) : (Code.func b e).cUnits = 3 := rfl
theorem u_for (t : Expr) (i : Value) (b o : List Stmt) (e : Env) : (Code.forLoop t i b o e).cUnits = 0 := rfl
theorem gen_seg {S : Addr} {d u : Nat} {x : Str} {px ypos epos fpos : Pos} {iter e : Expr} {pre b1 b2 : List Stmt} (hh : A.handled = none)
    (hd : A.depth + 4 ≤ d) (hu : A.units + 12 ≤ u)
    (hx : env.kindOf x = some .local) (hp : (env.scope.kind == .class || (env.scope.kind == .module && env.locals != env.globals)) = false)
    (hco : env.scope.isCoroutine = false) (hint : interactive env = false) (hgS : g.get? S = none) (hnS : ∀ p ∈ news, p.1 ≠ S) (hCS : env.locals ≠ S)
    (hs : ∀ x, foldedSetIterable iter env x = pure x)
    (s : Shared) (hex : ∃ o, s.heap.get? S = some o)
    (hpre : ∀ (A' : Around) (E : Value → Shared → Prop) own, A'.handled = none → A'.depth ≤ d → A'.units ≤ u → (∃ o, (S, o) ∈ own) → News g env.locals s.heap (own ++ news) →
      wpAny (model prog w) A' (execs pre env) (fun f s' => f = .next ∧ wpAny (model prog w) A' (eval iter env) (fun xv s₁ => wpAny (model prog w) A' (pyIter xv) (fun it s₂ =>
        GStart prog w d u env x b1 e b2 S g own news n F s it s₂) E s₁) E s') E s) (N₀ : News g env.locals s.heap news) :
    Seg (model prog w) A (genR S g env.locals news) (genY S g env.locals news n F) n s (.func (pre ++ [.For (.Name x px) iter (b1 ++ .Expr (.Yield (some e) ypos) epos :: b2) [] fpos]) env)
      ((model prog w).den (.func (pre ++ [.For (.Name x px) iter (b1 ++ .Expr (.Yield (some e) ypos) epos :: b2) [] fpos]) env)) [] s := by
  refine seg_func (seg_stmts ?_)
  have Nown : News g env.locals s.heap (ownOf g [S] s.heap) := news_ownOf (by simpa using hCS)
  refine wpAny_mono (hpre _ _ (ownOf g [S] s.heap) ?_ ?_ ?_ (let ⟨o, ho⟩ := hex; ⟨o, mem_ownOf (by simp) hgS ho⟩) (Nown.append N₀)) (fun f s' hf => ?_) fun _ _ e => e
  · exact hh
  · simp only [Around.over, w_func, List.map_nil, frameCount, List.sum_nil]; omega
  · simp only [Around.over, u_func, List.map_nil, unitsOf, List.sum_nil]; omega
  obtain ⟨rfl, hf⟩ := hf
  dsimp only
  refine seg_For (wpAny_mono hf (fun xv s₁ h₁ => wpAny_mono h₁ (fun it s₂ h₂ p => ?_) fun _ _ e => e) fun _ _ e => e) hs
  obtain ⟨It, fp, wr, P, St, J, J1, m, rfl, W, hCf, hSf, hwr, hnw, hst, hJ, F₂, N₂, hs₂, H⟩ := h₂
  refine seg_genFor (S := S) (n := n) (F := F) hh W H ?_ ?_ hx hp hco hint hCf hSf hgS hwr hnw hnS (fun s₀ s₃ hG => ?_) n 0 s s₂ m (Nat.sub_zero _) (Nat.zero_le _) hst hJ F₂ N₂.right hs₂ ?_
  · simp only [Around.over, w_for, w_func, List.map_nil, List.map_cons, Frame.where_, frameCount, List.sum_cons, List.sum_nil]; omega
  · simp only [Around.over, u_for, u_func, List.map_nil, List.map_cons, Frame.where_, unitsOf, List.sum_cons, List.sum_nil]; omega
  · exact seg_end (.ok (.ret .none)) ⟨rfl, rfl, hG⟩
  · intro o ho
    exact (N₂ (S, o) (List.mem_append_left _ (mem_ownOf (by simp) hgS ho))).1
end

def GReady (prog : Program) (w : World) (g : Heap) (C : Addr) (news : List (Addr × Obj)) (F : Nat → Value → Prop) (n : Nat) (s : Shared) : Prop :=
  ∃ gn nm qn body env m₀, Fr g C s.heap m₀ ∧ News g C s.heap news ∧ (C + 1, gobj gn nm qn) ∈ news ∧ s.heap.objs.size = C + 2 ∧ s.gens[gn]? = some (.fresh (.func body env)) ∧
    ∀ (A : Around) (s'' : Shared), A.handled = none → A.depth ≤ 395 → A.units ≤ 385 → Fr g C s''.heap m₀ → News g C s''.heap news → (∃ o, s''.heap.get? (C + 2) = some o) →
      Seg (model prog w) A (genR (C + 2) g C news) (genY (C + 2) g C news n F) n s'' (.func body env) ((model prog w).den (.func body env)) [] s''
section
variable {prog : Program} {w : World} {A : Around} {g : Heap} {C : Addr} {n : Nat} {F : Nat → Value → Prop} {news : List (Addr × Obj)} {s : Shared} {E Q : Value → Shared → Prop}
theorem list_ready (R : GReady prog w g C news F n s) (hh : A.handled = none) (hd : A.depth ≤ 395) (hu : A.units ≤ 375) (hl : g.NoLimit) (hn : n ≤ sizeLine)
    (hQ : ∀ h' tk G' acc c m, (AllBare s.gens → AllBare G') → Fr g C h' m → News g C h' news → h'.get? (C + 2) = some { cls := .type "list", dict := none, data := .seq acc c, slots := #[] } → ItemsOf F acc n →
      Q (.ref (C + 2)) { s with heap := h', toks := tk, gens := G' }) :
    wpAny (model prog w) A (call (.type "list") [.ref (C + 1)]) Q E s := by
  obtain ⟨gn, nm, qn, body, env, m₀, F₀, N₀, hI, hsz, hgs, hseg⟩ := R
  refine list_of_gen (gn := gn) (nm := nm) (qn := qn) (n := n) (F := F) hh (Nat.lt_of_le_of_lt hd (by decide)) hl F₀ N₀ hI hsz hgs (fun s'' F'' N'' hex => ?_) hn (fun s' acc c B hS hA => ?_)
  · rw [hsz] at hex ⊢
    exact hseg _ s'' hh hd (by show A.units + _ + _ + _ ≤ 385; omega) F'' N'' hex
  · rw [hsz] at hS ⊢
    obtain ⟨m, Fm⟩ := B.fr
    have e : s' = { s with heap := s'.heap, toks := s'.toks, gens := s'.gens } := by
      have h1 := B.drawn; have h2 := B.os
      cases s'; cases s; simp at h1 h2; simp [h1, h2]
    rw [e]
    exact hQ _ _ _ acc c m (fun hb => B.gens.bare hb) Fm B.nw hS hA
end
end Mine

namespace Mine
def encAt (ns : List Int) (i : Nat) : Int := ns.getD i 0 - (if i = 0 then 0 else ns.getD (i - 1) 0)
def sumTo (ns : List Int) : Nat → Int
  | 0 => 0
  | i + 1 => sumTo ns i + ns.getD i 0

section
variable {prog : Program} {w : World} {A : Around} {E : Value → Shared → Prop} {s s₀ : Shared} {env : Env} {g : Heap} {S a : Addr} {vs : List Value} {n d u : Nat} {x : Str} {b1 b2 : List Stmt} {e : Expr} {own news : List (Addr × Obj)} {m : Str → Option Value} {F : Nat → Value → Prop}
theorem gstart_list (J J1 : Nat → (Str → Option Value) → Prop) (hl : g.IsList a vs.toArray) (hn : vs.length = n) (F₁ : Fr g env.locals s.heap m) (N₁ : News g env.locals s.heap (own ++ news)) (hex : ∃ o, s.heap.get? S = some o) (hgS : g.get? S = none) (hCS : env.locals ≠ S) (hJ : J 0 m)
    (H : Half prog w d u env x b1 e b2 g news n (fun i v => vs[i]? = some v) F J J1) (hs : ∃ h tk, s = { s₀ with heap := h, toks := tk }) :
    wpAny (model prog w) A (pyIter (.ref a)) (fun it s₂ => GStart prog w d u env x b1 e b2 S g own news n F s₀ it s₂) E s := by
  have hl₁ : s.heap.IsList a vs.toArray := hl.at fun o e => F₁.keep _ _ e
  obtain ⟨o, ho, _⟩ := id hl
  obtain ⟨oS, hoS⟩ := hex
  have hCa : env.locals ≠ a := fun q => by rw [← q] at ho; exact absurd (Heap.lt_size ho) (Nat.not_lt.mpr F₁.above)
  have hSa : S ≠ a := fun q => by rw [q, ho] at hgS; cases hgS
  have hCI : env.locals ≠ s.heap.objs.size := fun q => absurd F₁.ns.lt (q ▸ Nat.lt_irrefl _)
  have hSI : S ≠ s.heap.objs.size := Nat.ne_of_lt (Heap.lt_size hoS)
  have haI : a ≠ s.heap.objs.size := fun q => by obtain ⟨o', ho', _⟩ := hl₁; exact absurd (Heap.lt_size ho') (q ▸ Nat.lt_irrefl _)
  refine wpAny_pyIter_list hl₁ ?_
  refine ⟨s.heap.objs.size, [s.heap.objs.size, a], [s.heap.objs.size], fun i v => vs[i]? = some v, fun i h => h.IsListIter s.heap.objs.size a i ∧ h.IsList a vs.toArray, J, J1, m, rfl, fun A' hA => ?_, ?_, ?_, ?_, ?_, ⟨?_, ?_⟩, hJ, F₁.push _, (fun p hp => ⟨Heap.get?_push_of_some _ (N₁ p hp).1, (N₁ p hp).2⟩), ?_, H⟩
  · have W := Walks.list (prog := prog) (w := w) hA s.heap.objs.size a haI vs.toArray
    have hz : vs.toArray.size = n := by rw [List.size_toArray]; exact hn
    have e : (fun (i : Nat) v => vs.toArray[i]? = some v) = (fun (i : Nat) v => vs[i]? = some v) := by funext i v; simp
    rw [hz, e] at W
    exact W
  · simp [hCS, hCI, hCa]
  · simp [hSI, hSa]
  · intro b hb; rw [List.mem_singleton.mp hb]; exact next_is_new F₁
  · intro p hp hI
    exact absurd (Heap.lt_size (N₁ p (List.mem_append_right _ hp)).1) ((List.mem_singleton.mp hI) ▸ Nat.lt_irrefl _)
  · exact ⟨_, Heap.get?_push_size _ rfl, rfl, rfl⟩
  · exact hl₁.at fun o e => Heap.get?_push_of_some _ e
  · obtain ⟨h, tk, rfl⟩ := hs; exact ⟨_, _, rfl⟩
end

local macro_rules | `(tactic| walk_at "pyIter ref") => `(tactic| refine Stop.mk ?_)

theorem enc_call {w : World} {me : ExcName → Option Value} {mg mb : Str → Option Value} {fr : Option (List Env)} {gd : Option (List Code)} {s : Shared} {Q E : Value → Shared → Prop} {a : Addr} {vs : List Value} {ns : List Int}
    (X : (Mine.hd.heap_39 w.params).In s.heap) (T : TP me mg mb s.heap) (ha : s.heap.IsList a vs.toArray) (hi : IntsAre vs ns) (hn : ns.length ≤ 100)
    (h : ∀ C h₁ tk G news, (AllBare s.gens → AllBare G) → GReady PG w s.heap C news (fun i v => ∃ t, v = .int (encAt ns i) t) ns.length { s with heap := h₁, toks := tk, gens := G } → Q (.ref (C + 1)) { s with heap := h₁, toks := tk, gens := G }) :
    wpAny (model PySem.Challenge.rw_lh0074_01.row.prog w) (amb fr gd 390 390) (call (.ref 59) [.ref a]) Q E s := by
  revert X; k_fill; intro X
  refine wpAny_call ?_
  k_dflt (refine' enterGen (g := s.heap) (news := []) (binds := [(Str.ofString "nums", .ref a)]) ?k1 ?g1 ?g2 ?g3 ?k2 ?k3 ?k4 ?k5 ?k6 ?k7 ?_ ?c1 ?c2 ?c3 ?k8; (case k1 => assumption); (case g1 => exact fun _ _ e => e); (case g2 => exact Nat.le_refl _); (case g3 => exact fun p hp => absurd hp List.not_mem_nil); (case k2 => exact T.nolimit); (case k3 => exact (by decide : (390 : Nat) < 1000)); (case k4 => k_is); (case k5 => k_is); (case k6 => exact BindsTo.of_eq rfl); (case k7 => (intro y hy; simp only [List.mem_cons, List.not_mem_nil, or_false] at hy; rcases hy with rfl; rfl)); (case c1 => exact rfl); (case c2 => exact rfl); (case c3 => exact rfl); (case k8 => decide +kernel))
  intro C h₁ tk nm qn hC F N hst hsz
  refine h C h₁ tk _ _ (fun hb => hb.push rfl) ⟨s.gens.size, nm, qn, _, _, _, F, N, .head _, hsz, Array.getElem?_push_size .., fun A s'' hA hd hu F'' N'' hex => ?_⟩
  have aC : a < C := by obtain ⟨o, ho, _⟩ := ha; rw [hC]; exact Heap.lt_size ho
  refine gen_seg (env := envOf (Str.ofString "delta_encode") _ C 59 _) (d := 400) (u := 400) (pre := [_]) (b1 := []) (b2 := [_]) hA (by omega) (by omega) rfl rfl rfl rfl ?_ ?_ ?_ (fun _ => rfl) s'' hex ?_ N''
  · cases q : s.heap.get? (C + 2) with
    | none => rfl
    | some o => have := Heap.lt_size q; rw [← hC] at this; exact absurd this (Nat.not_lt.mpr (Nat.le_add_right _ _))
  · intro p hp
    rw [List.mem_singleton] at hp; subst hp
    exact Nat.ne_of_lt (Nat.lt_succ_self _)
  · exact Nat.ne_of_lt (Nat.lt_add_of_pos_right (by decide))
  · intro A' E' own hA' hd' hu' hown Now
    refine wpAny_amb (d := 400) (u := 400) hA' hd' hu' ?_
    clear F N N''
    k_steps
    rename Fr _ _ _ _ => F3
    rename News _ _ _ _ => N3
    refine Stop.go (gstart_list (fun i m => ∃ t, m (Str.ofString "base") = some (.int (if i = 0 then 0 else ns.getD (i - 1) 0) t)) (fun i m => ∃ t, m (Str.ofString "n") = some (.int (ns.getD i 0) t)) ha hi.length F3 N3 ?_ ?_ ?_ ⟨_, rfl⟩ ⟨?_, ?_⟩ ⟨_, _, rfl⟩)
    · obtain ⟨o, ho⟩ := hown
      exact ⟨o, (N3 _ (List.mem_append_left _ ho)).1⟩
    · cases q : s.heap.get? (C + 2) with
      | none => rfl
      | some o => have := Heap.lt_size q; rw [← hC] at this; exact absurd this (Nat.not_lt.mpr (Nat.le_add_right _ _))
    · exact Nat.ne_of_lt (Nat.lt_add_of_pos_right (by decide))
    · intro A E s own i v m hA hd hu hlt hP ⟨tb, hb⟩ F N
      obtain ⟨tv, hv⟩ := ints_get? hi hlt
      rw [hv] at hP; cases hP
      refine wpAny_execs_nil ⟨rfl, ?_⟩
      refine wpAny_amb (d := 400) (u := 400) hA hd hu ?_
      replace F := fr_know F (Str.ofString "base") _ hb
      clear F3 N3
      k_steps
      exact ⟨⟨_, rfl⟩, _, _, _, rfl, F, N, ⟨_, rfl⟩⟩
    · intro A E s own i m hA hd hu hlt ⟨tb, hb⟩ F N
      refine wpAny_amb (d := 400) (u := 400) hA hd hu ?_
      replace F := fr_know F (Str.ofString "n") _ hb
      clear F3 N3
      k_steps
      rename Fr _ _ _ _ => F4
      rename News _ _ _ _ => N4
      exact ⟨rfl, _, _, _, rfl, F4, N4, ⟨tb, by simp⟩⟩
theorem dec_call {w : World} {me : ExcName → Option Value} {mg mb : Str → Option Value} {fr : Option (List Env)} {gd : Option (List Code)} {s : Shared} {Q E : Value → Shared → Prop} {a : Addr} {vs : List Value} {ns : List Int}
    (X : (Mine.hd.heap_39 w.params).In s.heap) (T : TP me mg mb s.heap) (ha : s.heap.IsList a vs.toArray) (hi : IntsAre vs ns) (hn : ns.length ≤ 100)
    (h : ∀ C h₁ tk G news, (AllBare s.gens → AllBare G) → GReady PG w s.heap C news (fun i v => ∃ t, v = .int (sumTo ns (i + 1)) t) ns.length { s with heap := h₁, toks := tk, gens := G } → Q (.ref (C + 1)) { s with heap := h₁, toks := tk, gens := G }) :
    wpAny (model PySem.Challenge.rw_lh0074_01.row.prog w) (amb fr gd 390 390) (call (.ref 66) [.ref a]) Q E s := by
  revert X; k_fill; intro X
  refine wpAny_call ?_
  k_dflt (refine' enterGen (g := s.heap) (news := []) (binds := [(Str.ofString "nums", .ref a)]) ?k1 ?g1 ?g2 ?g3 ?k2 ?k3 ?k4 ?k5 ?k6 ?k7 ?_ ?c1 ?c2 ?c3 ?k8; (case k1 => assumption); (case g1 => exact fun _ _ e => e); (case g2 => exact Nat.le_refl _); (case g3 => exact fun p hp => absurd hp List.not_mem_nil); (case k2 => exact T.nolimit); (case k3 => exact (by decide : (390 : Nat) < 1000)); (case k4 => k_is); (case k5 => k_is); (case k6 => exact BindsTo.of_eq rfl); (case k7 => (intro y hy; simp only [List.mem_cons, List.not_mem_nil, or_false] at hy; rcases hy with rfl; rfl)); (case c1 => exact rfl); (case c2 => exact rfl); (case c3 => exact rfl); (case k8 => decide +kernel))
  intro C h₁ tk nm qn hC F N hst hsz
  refine h C h₁ tk _ _ (fun hb => hb.push rfl) ⟨s.gens.size, nm, qn, _, _, _, F, N, .head _, hsz, Array.getElem?_push_size .., fun A s'' hA hd hu F'' N'' hex => ?_⟩
  have aC : a < C := by obtain ⟨o, ho, _⟩ := ha; rw [hC]; exact Heap.lt_size ho
  refine gen_seg (env := envOf (Str.ofString "delta_decode") _ C 66 _) (d := 400) (u := 400) (pre := [_]) (b1 := [_]) (b2 := []) hA (by omega) (by omega) rfl rfl rfl rfl ?_ ?_ ?_ (fun _ => rfl) s'' hex ?_ N''
  · cases q : s.heap.get? (C + 2) with
    | none => rfl
    | some o => have := Heap.lt_size q; rw [← hC] at this; exact absurd this (Nat.not_lt.mpr (Nat.le_add_right _ _))
  · intro p hp
    rw [List.mem_singleton] at hp; subst hp
    exact Nat.ne_of_lt (Nat.lt_succ_self _)
  · exact Nat.ne_of_lt (Nat.lt_add_of_pos_right (by decide))
  · intro A' E' own hA' hd' hu' hown Now
    refine wpAny_amb (d := 400) (u := 400) hA' hd' hu' ?_
    clear F N N''
    k_steps
    rename Fr _ _ _ _ => F3
    rename News _ _ _ _ => N3
    refine Stop.go (gstart_list (fun i m => ∃ t, m (Str.ofString "base") = some (.int (sumTo ns i) t)) (fun i m => ∃ t, m (Str.ofString "base") = some (.int (sumTo ns (i + 1)) t)) ha hi.length F3 N3 ?_ ?_ ?_ ⟨_, rfl⟩ ⟨?_, ?_⟩ ⟨_, _, rfl⟩)
    · obtain ⟨o, ho⟩ := hown
      exact ⟨o, (N3 _ (List.mem_append_left _ ho)).1⟩
    · cases q : s.heap.get? (C + 2) with
      | none => rfl
      | some o => have := Heap.lt_size q; rw [← hC] at this; exact absurd this (Nat.not_lt.mpr (Nat.le_add_right _ _))
    · exact Nat.ne_of_lt (Nat.lt_add_of_pos_right (by decide))
    · intro A E s own i v m hA hd hu hlt hP ⟨tb, hb⟩ F N
      obtain ⟨tv, hv⟩ := ints_get? hi hlt
      rw [hv] at hP; cases hP
      refine wpAny_amb (d := 400) (u := 400) hA hd hu ?_
      replace F := fr_know F (Str.ofString "base") _ hb
      clear F3 N3
      refine wpAny_mono (Q := fun f s' => Stop (f = .next ∧ wpAny _ _ _ (OneEnd _ _ _ _ _ _) _ s')) ?_ (fun _ _ h => Stop.mk h) fun _ _ e => e
      k_steps
      refine Stop.go ⟨rfl, ?_⟩
      refine wpAny_amb (d := 400) (u := 400) hA hd hu ?_
      rename Fr _ _ _ _ => F4
      rename News _ _ _ _ => N4
      k_steps
      exact ⟨⟨_, rfl⟩, _, _, _, rfl, F4, N4, ⟨_, rfl⟩⟩
    · intro A E s own i m hA hd hu hlt ⟨tb, hb⟩ F N
      exact wpAny_execs_nil ⟨rfl, _, _, _, rfl, F, N, ⟨tb, hb⟩⟩
end Mine

namespace Mine
section
variable {prog : Program} {w : World} {A : Around} {E : Value → Shared → Prop} {s s₀ : Shared} {env : Env} {g : Heap} {S r : Addr} {n d u : Nat} {x : Str} {b1 b2 : List Stmt} {e : Expr} {own news : List (Addr × Obj)} {m : Str → Option Value} {F : Nat → Value → Prop} {a b c : Int} {t1 t2 t3 : Tok}
theorem gstart_range (J J1 : Nat → (Str → Option Value) → Prop) (hR : IsRange s.heap r a b c t1 t2 t3) (hsm : Builtin.Range.small a b c = true) (hn : Builtin.Range.rangeSize a b c = n) (F₁ : Fr g env.locals s.heap m) (N₁ : News g env.locals s.heap (own ++ news)) (hex : ∃ o, s.heap.get? S = some o) (hCS : env.locals ≠ S) (hJ : J 0 m)
    (H : Half prog w d u env x b1 e b2 g news n (fun i v => ∃ t, v = .int (a + (i : Nat) * c) t) F J J1) (hs : ∃ h tk, s = { s₀ with heap := h, toks := tk }) :
    wpAny (model prog w) A (pyIter (.ref r)) (fun it s₂ => GStart prog w d u env x b1 e b2 S g own news n F s₀ it s₂) E s := by
  obtain ⟨oS, hoS⟩ := hex
  have hCI : env.locals ≠ s.heap.objs.size := fun q => absurd F₁.ns.lt (q ▸ Nat.lt_irrefl _)
  have hSI : S ≠ s.heap.objs.size := Nat.ne_of_lt (Heap.lt_size hoS)
  refine wpAny_pyIter_range hR hsm ?_
  refine ⟨s.heap.objs.size, [s.heap.objs.size], [s.heap.objs.size], _, _, J, J1, m, rfl, fun A' hA => Walks.range hA s.heap.objs.size a c n, ?_, ?_, ?_, ?_, ?_, hJ, F₁.push _, (fun p hp => ⟨Heap.get?_push_of_some _ (N₁ p hp).1, (N₁ p hp).2⟩), ?_, H⟩
  · simp [hCS, hCI]
  · simp [hSI]
  · intro b hb; rw [List.mem_singleton.mp hb]; exact next_is_new F₁
  · intro p hp hI
    exact absurd (Heap.lt_size (N₁ p (List.mem_append_right _ hp)).1) ((List.mem_singleton.mp hI) ▸ Nat.lt_irrefl _)
  · show IsRangeIter _ _ _ _ _
    have : (s.heap.push { cls := .type "range_iterator", data := .fields #[rawInt a, rawInt (Builtin.Range.rangeSize a b c), rawInt c] }).get? s.heap.objs.size = _ := Heap.get?_push_size _ rfl
    simpa [IsRangeIter, hn] using this
  · obtain ⟨h, tk, rfl⟩ := hs; exact ⟨_, _, rfl⟩
theorem num_itemZ {h₀ : Heap} {L : Addr} {P : Params} {value slice : Expr} {i : Nat} {z : Int} {u : Tok} {Q : Value → Shared → Prop} (X : (Mine.hd.heap_39 P).In h₀) (F : Fr h₀ L s.heap m) (hz : z = (i : Int)) (h16 : i < 16) (h : ∀ t, Q (.int (layAt i).length t) s)
    (hs : subscripted slice false (.ref 123) (.int z u) = operate [.ref 123, .int z u] (getItem (.ref 123) (.int z u)) := by with_unfolding_all rfl) :
    wpAny (model prog w) A (subscriptTail value slice (.ref 123) (.int z u)) Q E s := by subst hz; exact num_item X F h16 h hs
end

local macro_rules | `(tactic| walk_at "pyIter ref") => `(tactic| refine Stop.mk ?_)
local macro_rules | `(tactic| walk_at "subscriptTail Name Name ref int") => `(tactic| refine Stop.mk ?_)
local macro_rules | `(tactic| walk_at "subscriptTail Name Name ref int") => `(tactic| ((with_reducible show wpAny _ _ (subscriptTail _ _ (Value.ref 123) (Value.int _ _)) _ _ _); refine' num_itemZ ?X ?F ?z ?h ?_; (case X => assumption); (case F => assumption); (case z => assumption); (case h => assumption); intro _))
local macro_rules | `(tactic| walk_at "subscriptTail Name Name ref int") => `(tactic| ((with_reducible show wpAny _ _ (subscriptTail _ _ (Value.ref 141) (Value.int _ _)) _ _ _); refine' bits_item ?X ?F ?h ?_; (case X => assumption); (case F => assumption); (case h => assumption); intro _ _ _ _ _))
local macro_rules | `(tactic| walk_at "subscriptTail Name Name ref int") => `(tactic| (refine' bit_item ?X ?F ?l ?i ?h ?z ?_; (case X => assumption); (case F => assumption); (case l => assumption); (case i => assumption); (case h => assumption); (case z => assumption); intro _))

structure DJ (i : Nat) (v : Int) (tv : Tok) (j : Nat) (m : Str → Option Value) : Prop where
  mv : m (Str.ofString "value") = some (.int v tv)
  mky : ∃ t, m (Str.ofString "key") = some (.int i t)
  mb : ∃ t, m (Str.ofString "bits") = some (.int (offs (layAt i) j) t)
  mbi : m (Str.ofString "_bits") = some (.ref 141)
theorem ex_int' {o : Option Value} {a b : Int} (h : ∃ t, o = some (.int a t)) (e : a = b) : ∃ t, o = some (.int b t) := e ▸ h
theorem int_eq' {a b : Int} {t : Tok} (h : a = b) : ∃ t', Value.int a t = Value.int b t' := ⟨t, h ▸ rfl⟩
def decAt (i : Nat) (v : Int) (j : Nat) : Int := (v / 2 ^ offs (layAt i) j) % 2 ^ ((layAt i).getD j 0).toNat

set_option maxHeartbeats 4000000 in
theorem decomp_call {w : World} {me : ExcName → Option Value} {mg mb : Str → Option Value} {fr : Option (List Env)} {gd : Option (List Code)} {s : Shared} {Q E : Value → Shared → Prop} {c dx : Addr} {v lo : Int} {i n : Nat} {tv tn : Tok}
    (X : (Mine.hd.heap_39 w.params).In ((s.heap.hide c).hide dx)) (T : TP me mg mb ((s.heap.hide c).hide dx)) (hc : s.heap.get? c = some (instObj 179 dx)) (hdx : s.heap.get? dx = some (PySem.W.dictOf [] 0)) (hcd : c ≠ dx)
    (hi : i < 16) (hv : v = (i : Int) * 2 ^ 28 + lo) (hl0 : 0 ≤ lo) (hl1 : lo < 2 ^ 28) (hn : n ≤ 30)
    (h : ∀ C h₁ tk G news, (AllBare s.gens → AllBare G) → s.heap.StaysIn h₁ → (c, instObj 179 dx) ∈ news → (dx, PySem.W.dictOf [] 0) ∈ news → GReady PG w ((s.heap.hide c).hide dx) C news (fun j y => ∃ t, y = .int (decAt i v j) t) (min (layAt i).length n) { s with heap := h₁, toks := tk, gens := G } → Q (.ref (C + 1)) { s with heap := h₁, toks := tk, gens := G }) :
    wpAny (model PySem.Challenge.rw_lh0074_01.row.prog w) (amb fr gd 390 390) (call (.ref 169) [.ref c, .int v tv, .int n tn]) Q E s := by
  revert X; k_fill; intro X
  refine wpAny_call ?_
  k_dflt (refine' enterGen (g := (s.heap.hide c).hide dx) (news := [(c, instObj 179 dx), (dx, PySem.W.dictOf [] 0)]) (binds := [(Str.ofString "self", .ref c), (Str.ofString "value", .int v tv), (Str.ofString "n", .int n tn)]) ?k1 ?g1 ?g2 ?g3 ?k2 ?k3 ?k4 ?k5 ?k6 ?k7 ?_ ?c1 ?c2 ?c3 ?k8; (case k1 => assumption); (case g1 => exact fun _ _ e => Heap.of_hide (Heap.of_hide e)); (case g2 => simp only [Heap.hide_size]; exact Nat.le_refl _); (case g3 => (intro p hp; simp only [List.mem_cons, List.not_mem_nil, or_false] at hp; rcases hp with rfl | rfl; refine ⟨hc, ?_⟩; rw [Heap.hide_ne _ hcd]; exact Heap.hide_self _ _; exact ⟨hdx, Heap.hide_self _ _⟩)); (case k2 => exact T.nolimit); (case k3 => exact (by decide : (390 : Nat) < 1000)); (case k4 => k_is); (case k5 => k_is); (case k6 => exact BindsTo.of_eq rfl); (case k7 => (intro y hy; simp only [List.mem_cons, List.not_mem_nil, or_false] at hy; rcases hy with rfl | rfl | rfl <;> rfl)); (case c1 => exact rfl); (case c2 => exact rfl); (case c3 => exact rfl); (case k8 => decide +kernel))
  intro C h₁ tk nm qn hC F N hst hsz
  have hb : ∀ p ∈ [(c, instObj 179 dx), (dx, PySem.W.dictOf [] 0)], p.1 < C := by
    intro p hp
    simp only [List.mem_cons, List.not_mem_nil, or_false] at hp
    rw [hC]
    rcases hp with rfl | rfl
    · exact Heap.lt_size hc
    · exact Heap.lt_size hdx
  refine h C h₁ tk _ _ (fun hb => hb.push rfl) hst (.tail _ (.head _)) (.tail _ (.tail _ (.head _))) ⟨s.gens.size, nm, qn, _, _, _, F, N, .head _, hsz, Array.getElem?_push_size .., fun A s'' hA hd hu F'' N'' hex => ?_⟩
  have hgS : ((s.heap.hide c).hide dx).get? (C + 2) = none := by
    cases q : ((s.heap.hide c).hide dx).get? (C + 2) with
    | none => rfl
    | some o => have := Heap.lt_size q; rw [Heap.hide_size, Heap.hide_size, ← hC] at this; exact absurd this (Nat.not_lt.mpr (Nat.le_add_right _ _))
  refine gen_seg (env := envOf (Str.ofString "Simple16._decompress") _ C 169 _) (d := 400) (u := 400) (pre := [_, _, _, _, _, _, _]) (b1 := [_]) (b2 := [_]) hA (by omega) (by omega) rfl rfl rfl rfl hgS ?_ ?_ (fun _ => rfl) s'' hex ?_ N''
  · intro p hp
    rcases List.mem_cons.mp hp with rfl | hp
    · exact Nat.ne_of_lt (Nat.lt_succ_self _)
    · exact Nat.ne_of_lt (Nat.lt_of_lt_of_le (hb p hp) (Nat.le_add_right _ _))
  · exact Nat.ne_of_lt (Nat.lt_add_of_pos_right (by decide))
  · intro A' E' own hA' hd' hu' hown Now
    refine wpAny_amb (d := 400) (u := 400) hA' hd' hu' ?_
    clear F N N''
    have N1 : News ((s.heap.hide c).hide dx) C s''.heap ((C + 1, gobj s.gens.size nm qn) :: (c, instObj 179 dx) :: (dx, PySem.W.dictOf [] 0) :: own) := fun p hp => Now p (by simp only [List.mem_cons, List.mem_append] at hp ⊢; grind)
    clear Now
    have hkey : v.fdiv (2 ^ Int.toNat 28) = (i : Int) := by
      show v.fdiv (2 ^ 28) = _
      rw [Int.fdiv_eq_ediv_of_nonneg _ (by decide), hv]; omega
    have hlp := lay_pos i hi
    have hv0 : 0 ≤ v := by omega
    have hw28 : (layAt i).length ≤ 28 := lay_falls 0 (by decide) i hi (Nat.zero_le _)
    k_steps
    all_goals
      rename IsRange _ _ _ _ _ _ _ _ => hR
      rename Fr _ _ _ _ => F3
      rename News _ _ _ _ => N3
      have N4 : News ((s.heap.hide c).hide dx) C _ (own ++ [(C + 1, gobj s.gens.size nm qn), (c, instObj 179 dx), (dx, PySem.W.dictOf [] 0)]) := fun p hp => N3 p (by simp only [List.mem_cons, List.mem_append, List.not_mem_nil, or_false] at hp ⊢; grind)
      refine Stop.go (gstart_range (DJ i v tv) (fun j m => DJ i v tv j m ∧ ∃ t, m (Str.ofString "j") = some (.int j t)) hR ?_ ?_ F3 N4 ?_ ?_ ⟨rfl, ex_int' ⟨_, rfl⟩ hkey, ⟨_, rfl⟩, rfl⟩ ⟨?_, ?_⟩ ⟨_, _, rfl⟩)
      · exact small_up _ (by omega)
      · rw [rangeSize_up]; omega
      · obtain ⟨o, ho⟩ := hown
        exact ⟨o, (N4 _ (List.mem_append_left _ ho)).1⟩
      · exact Nat.ne_of_lt (Nat.lt_add_of_pos_right (by decide))
      · rintro A E s own j _ m hA hd hu hlt ⟨tj, rfl⟩ ⟨mv, ⟨tk, mk⟩, ⟨tb, mb⟩, mbi⟩ F N
        simp only [Int.zero_add, Int.mul_one] at F
        refine wpAny_amb (d := 400) (u := 400) hA hd hu ?_
        have hjl : j < (layAt i).length := by omega
        have hgz := layAt_small i hi _ (List.getElem_mem hjl)
        have hgd : (layAt i).getD j 0 = (layAt i)[j] := by simp [List.getD, hjl]
        rw [← hgd] at hgz
        obtain ⟨w0, w1⟩ := hgz
        replace F := fr_know (fr_know (fr_know (fr_know F (Str.ofString "value") _ mv) (Str.ofString "key") _ mk) (Str.ofString "bits") _ mb) (Str.ofString "_bits") _ mbi
        clear F3 N3 N4 hR
        refine wpAny_mono (Q := fun f s' => Stop (f = .next ∧ wpAny _ _ _ (OneEnd _ _ _ _ _ _) _ s')) ?_ (fun _ _ h => Stop.mk h) fun _ _ e => e
        k_steps
        refine Stop.go ⟨rfl, ?_⟩
        refine wpAny_amb (d := 400) (u := 400) hA hd hu ?_
        rename Fr _ _ _ _ => F4
        rename News _ _ _ _ => N4
        k_steps
        exact ⟨int_eq' (dec_bits hv0 w0 w1), _, _, _, rfl, F4, N4, ⟨rfl, ⟨_, rfl⟩, ⟨_, rfl⟩, rfl⟩, ⟨_, rfl⟩⟩
      · rintro A E s own j m hA hd hu hlt ⟨⟨mv, ⟨tk, mk⟩, ⟨tb, mb⟩, mbi⟩, ⟨tj, mj⟩⟩ F N
        refine wpAny_amb (d := 400) (u := 400) hA hd hu ?_
        have hjl : j < (layAt i).length := by omega
        replace F := fr_know (fr_know (fr_know (fr_know (fr_know F (Str.ofString "j") _ mj) (Str.ofString "value") _ mv) (Str.ofString "key") _ mk) (Str.ofString "bits") _ mb) (Str.ofString "_bits") _ mbi
        clear F3 N3 N4 hR
        k_steps
        rename Fr _ _ _ _ => F4
        rename News _ _ _ _ => N4
        have hgz := layAt_small i hi _ (List.getElem_mem hjl)
        have hgd : (layAt i).getD j 0 = (layAt i)[j] := by simp [List.getD, hjl]
        rw [← hgd] at hgz
        exact ⟨rfl, _, _, _, rfl, F4, N4, rfl, ⟨_, rfl⟩, ex_int' ⟨_, rfl⟩ (by rw [offs_succ hjl]; omega), rfl⟩
end Mine

namespace Mine
/-- a turn's end where generators may have come -/
def GEnd (g : Heap) (L : Addr) (own : List (Addr × Obj)) (J : (Str → Option Value) → List (Addr × Obj) → Prop) (s : Shared) (f : Flow) (s₂ : Shared) : Prop :=
  f = .next ∧ ∃ h' tk' G' m' nx', s₂ = { s with heap := h', toks := tk', gens := G' } ∧ (AllBare s.gens → AllBare G') ∧ Fr g L h' m' ∧ News g L h' (own ++ nx') ∧ J m' nx'
section
variable {prog : Program} {w : World} {A : Around} {E : Value → Shared → Prop} {s : Shared} {env : Env} {g : Heap} {x : Str} {px : Pos} {body : List Stmt} {Q : Flow → Shared → Prop}
theorem for_listG {a : Addr} {vs : List Value} {m₀ : Str → Option Value} {news : List (Addr × Obj)} (J : Nat → (Str → Option Value) → List (Addr × Obj) → Prop)
    (hh : A.handled = none) (hx : env.kindOf x = some .local) (hp : (env.scope.kind == .class || (env.scope.kind == .module && env.locals != env.globals)) = false)
    (hl : g.IsList a vs.toArray) (F : Fr g env.locals s.heap m₀) (N : News g env.locals s.heap news) (hj : J 0 m₀ news)
    (turn : ∀ (E' : Value → Shared → Prop) i v m₁ nx h tk G It ob, i < vs.length → vs[i]? = some v → J i m₁ nx → (AllBare s.gens → AllBare G) → Fr g env.locals h (fun y => if y = x then some v else m₁ y) → News g env.locals h ((It, ob) :: nx) → (∀ p ∈ nx, p.1 ≠ It) →
      wpAny (model prog w) A (execs body env) (fun f s₂ => GEnd g env.locals [(It, ob)] (fun m' nx' => (∀ p ∈ nx', p.1 ≠ It) ∧ J (i + 1) m' nx') { s with heap := h, toks := tk, gens := G } f s₂) E' { s with heap := h, toks := tk, gens := G })
    (done : ∀ m₁ nx h tk G, J vs.length m₁ nx → (AllBare s.gens → AllBare G) → Fr g env.locals h m₁ → News g env.locals h nx → Q .next { s with heap := h, toks := tk, gens := G }) :
    wpAny (model prog w) A (pyIter (.ref a)) (fun it s₂ => codeAny (model prog w) A (.forLoop (.Name x px) it body [] env) (fun r s' => match r with | .ok f => Q f s' | .error e => cameBackBy (model prog w) A env E e s') s₂) E s := by
  have hl₁ : s.heap.IsList a vs.toArray := hl.at fun o e => F.keep _ _ e
  obtain ⟨o, ho, _⟩ := id hl
  obtain ⟨It, hIt⟩ : ∃ It, It = s.heap.objs.size := ⟨_, rfl⟩
  have hLa : env.locals ≠ a := fun q => by rw [← q] at ho; exact absurd (Heap.lt_size ho) (Nat.not_lt.mpr F.above)
  have hLI : env.locals ≠ It := fun q => absurd F.ns.lt (by rw [← hIt, ← q]; exact Nat.lt_irrefl _)
  have haI : a ≠ It := fun q => by obtain ⟨o', ho', _⟩ := hl₁; exact absurd (Heap.lt_size ho') (by rw [← hIt, q]; exact Nat.lt_irrefl _)
  have gI : g.get? It = none := hIt ▸ next_is_new F
  have W := Walks.list (prog := prog) (w := w) hh It a haI vs.toArray
  refine wpAny_pyIter_list hl₁ ?_
  rw [← hIt]
  refine codeAny_forLoop_any (fun k s' => ∃ i h tk G m nx, s' = { s with heap := h, toks := tk, gens := G } ∧ (h.IsListIter It a i ∧ h.IsList a vs.toArray) ∧ (AllBare s.gens → AllBare G) ∧ Fr g env.locals h m ∧ News g env.locals h nx ∧ (∀ p ∈ nx, p.1 ≠ It) ∧ J i m nx ∧ i ≤ vs.length ∧ k = vs.length + 1 - i) ?_ (vs.length + 1)
    ⟨0, _, _, _, m₀, news, rfl, ⟨⟨_, hIt ▸ Heap.get?_push_size _ rfl, rfl, rfl⟩, hl₁.at fun o e => Heap.get?_push_of_some _ e⟩, id, F.push _, (fun p hp => ⟨Heap.get?_push_of_some _ (N p hp).1, (N p hp).2⟩), (fun p hp => by rw [hIt]; exact Nat.ne_of_lt (Heap.lt_size (N p hp).1)), hj, Nat.zero_le _, rfl⟩
  rintro k s' ⟨i, h, tk, G, m, nx, rfl, hst, hG, F₁, N₁, hnI, hJ, hi, rfl⟩
  have step : ∀ h₁ : Heap, (∀ b o, b ∉ [It] → h.get? b = some o → h₁.get? b = some o) → Fr g env.locals h₁ m ∧ News g env.locals h₁ nx := fun h₁ hk =>
    ⟨⟨F₁.ns.at' fun o e => hk _ o (by simpa using hLI) e, fun b o e => hk b o (by simp; intro q; rw [q, gI] at e; cases e) (F₁.keep b o e), F₁.above⟩, fun p hp => ⟨hk _ _ (by simpa using hnI p hp) (N₁ p hp).1, (N₁ p hp).2⟩⟩
  by_cases hlt : i < vs.length
  · refine W.item i _ _ _ (by simpa using hlt) hst fun v h₁ tk₁ hP hst₁ hk₁ => ?_
    obtain ⟨F₂, N₂⟩ := step h₁ hk₁
    refine wpAny_of_eq (rfl : letOwnedTupleGo (.Name x px) (.ref It) v = pure ()) ?_
    refine wpAny_assign_Name (wpAny_storeName_local hx F₂.ns (fun h₂ hn₂ hs₂ => ?_) hp)
    have F₃ := F₂.set hn₂ hs₂
    have N₃ := N₂.set hs₂
    obtain ⟨ob, hob, hobc, hobd⟩ := hst₁.1
    have hob₂ : h₂.get? It = some ob := (hs₂.2 It fun q => hLI q.symm).trans hob
    have hl₂ : h₂.IsList a vs.toArray := hl.at fun o e => F₃.keep _ _ e
    refine wpAny_mono (turn _ i v m nx _ _ _ It ob hlt (by simpa using hP) hJ hG F₃ (fun p hp => ?_) hnI) (fun f s₃ h₃ => ?_) fun _ _ e => e
    · rcases List.mem_cons.mp hp with rfl | hp
      · exact ⟨hob₂, fun q => hLI q.symm, gI⟩
      · exact N₃ p hp
    · obtain ⟨rfl, h', tk', G', m', nx', rfl, hG', F₄, N₄, hnI', hJ'⟩ := h₃
      refine ⟨vs.length + 1 - (i + 1), by omega, i + 1, h', tk', G', m', nx', rfl, ⟨⟨ob, (N₄ _ (.head _)).1, hobc, hobd⟩, hl.at fun o e => F₄.keep _ _ e⟩, fun hb => hG' (hG hb), F₄, fun p hp => N₄ p (List.mem_append_right _ hp), hnI', hJ', hlt, rfl⟩
  · obtain rfl : i = vs.length := by omega
    refine W.done _ _ _ (by simpa using hst) fun h₁ tk₁ hk₁ => ?_
    obtain ⟨F₂, N₂⟩ := step h₁ hk₁
    exact wpAny_execs_nil (done m nx h₁ tk₁ G hJ hG F₂ N₂)
end
end Mine

namespace Mine
section
variable {prog : Program} {w : World} {A : Around} {E : Value → Shared → Prop} {s : Shared} {env : Env} {g : Heap} {x : Str} {px : Pos} {body : List Stmt} {Q : Flow → Shared → Prop}
theorem for_listN {a : Addr} {oa : Obj} {vs : List Value} {m₀ : Str → Option Value} {news : List (Addr × Obj)} (J : Nat → (Str → Option Value) → List (Addr × Obj) → Prop)
    (hh : A.handled = none) (hx : env.kindOf x = some .local) (hp : (env.scope.kind == .class || (env.scope.kind == .module && env.locals != env.globals)) = false)
    (hoa : oa.cls = .type "list") (hob : ∃ ne, oa.data = .seq vs.toArray ne) (F : Fr g env.locals s.heap m₀) (N : News g env.locals s.heap ((a, oa) :: news)) (hna : ∀ p ∈ news, p.1 ≠ a) (hj : J 0 m₀ news)
    (turn : ∀ (E' : Value → Shared → Prop) i v m₁ nx h tk G It ob, i < vs.length → vs[i]? = some v → J i m₁ nx → (AllBare s.gens → AllBare G) → Fr g env.locals h (fun y => if y = x then some v else m₁ y) → News g env.locals h ((It, ob) :: (a, oa) :: nx) → (∀ p ∈ nx, p.1 ≠ It ∧ p.1 ≠ a) → a ≠ It →
      wpAny (model prog w) A (execs body env) (fun f s₂ => GEnd g env.locals [(It, ob), (a, oa)] (fun m' nx' => (∀ p ∈ nx', p.1 ≠ It ∧ p.1 ≠ a) ∧ J (i + 1) m' nx') { s with heap := h, toks := tk, gens := G } f s₂) E' { s with heap := h, toks := tk, gens := G })
    (done : ∀ m₁ nx h tk G, J vs.length m₁ nx → (AllBare s.gens → AllBare G) → Fr g env.locals h m₁ → News g env.locals h ((a, oa) :: nx) → (∀ p ∈ nx, p.1 ≠ a) → Q .next { s with heap := h, toks := tk, gens := G }) :
    wpAny (model prog w) A (pyIter (.ref a)) (fun it s₂ => codeAny (model prog w) A (.forLoop (.Name x px) it body [] env) (fun r s' => match r with | .ok f => Q f s' | .error e => cameBackBy (model prog w) A env E e s') s₂) E s := by
  have isl : ∀ {h : Heap}, h.get? a = some oa → h.IsList a vs.toArray := fun e => let ⟨ne, hd⟩ := hob; ⟨oa, e, hoa, ne, hd⟩
  have hl₁ : s.heap.IsList a vs.toArray := isl (N _ (.head _)).1
  obtain ⟨It, hIt⟩ : ∃ It, It = s.heap.objs.size := ⟨_, rfl⟩
  have hLa : env.locals ≠ a := fun q => (N _ (.head _)).2.1 q.symm
  have hLI : env.locals ≠ It := fun q => absurd F.ns.lt (by rw [← hIt, ← q]; exact Nat.lt_irrefl _)
  have haI : a ≠ It := fun q => by obtain ⟨o', ho', _⟩ := hl₁; exact absurd (Heap.lt_size ho') (by rw [← hIt, q]; exact Nat.lt_irrefl _)
  have gI : g.get? It = none := hIt ▸ next_is_new F
  have W := Walks.list (prog := prog) (w := w) hh It a haI vs.toArray
  refine wpAny_pyIter_list hl₁ ?_
  rw [← hIt]
  refine codeAny_forLoop_any (fun k s' => ∃ i h tk G m nx, s' = { s with heap := h, toks := tk, gens := G } ∧ (h.IsListIter It a i ∧ h.IsList a vs.toArray) ∧ (AllBare s.gens → AllBare G) ∧ Fr g env.locals h m ∧ News g env.locals h ((a, oa) :: nx) ∧ (∀ p ∈ nx, p.1 ≠ It ∧ p.1 ≠ a) ∧ J i m nx ∧ i ≤ vs.length ∧ k = vs.length + 1 - i) ?_ (vs.length + 1)
    ⟨0, _, _, _, m₀, news, rfl, ⟨⟨_, hIt ▸ Heap.get?_push_size _ rfl, rfl, rfl⟩, hl₁.at fun o e => Heap.get?_push_of_some _ e⟩, id, F.push _, (fun p hp => ⟨Heap.get?_push_of_some _ (N p hp).1, (N p hp).2⟩), (fun p hp => ⟨by rw [hIt]; exact Nat.ne_of_lt (Heap.lt_size (N p (.tail _ hp)).1), hna p hp⟩), hj, Nat.zero_le _, rfl⟩
  rintro k s' ⟨i, h, tk, G, m, nx, rfl, hst, hG, F₁, N₁, hnI, hJ, hi, rfl⟩
  have step : ∀ h₁ : Heap, (∀ b o, b ∉ [It] → h.get? b = some o → h₁.get? b = some o) → Fr g env.locals h₁ m ∧ News g env.locals h₁ ((a, oa) :: nx) := fun h₁ hk =>
    ⟨⟨F₁.ns.at' fun o e => hk _ o (by simpa using hLI) e, fun b o e => hk b o (by simp; intro q; rw [q, gI] at e; cases e) (F₁.keep b o e), F₁.above⟩, fun p hp => ⟨hk _ _ (by rcases List.mem_cons.mp hp with rfl | hp; simpa using haI; simpa using (hnI p hp).1) (N₁ p hp).1, (N₁ p hp).2⟩⟩
  by_cases hlt : i < vs.length
  · refine W.item i _ _ _ (by simpa using hlt) hst fun v h₁ tk₁ hP hst₁ hk₁ => ?_
    obtain ⟨F₂, N₂⟩ := step h₁ hk₁
    refine wpAny_of_eq (rfl : letOwnedTupleGo (.Name x px) (.ref It) v = pure ()) ?_
    refine wpAny_assign_Name (wpAny_storeName_local hx F₂.ns (fun h₂ hn₂ hs₂ => ?_) hp)
    have F₃ := F₂.set hn₂ hs₂
    have N₃ := N₂.set hs₂
    obtain ⟨ob, hobg, hobc, hobd⟩ := hst₁.1
    have hob₂ : h₂.get? It = some ob := (hs₂.2 It fun q => hLI q.symm).trans hobg
    refine wpAny_mono (turn _ i v m nx _ _ _ It ob hlt (by simpa using hP) hJ hG F₃ (fun p hp => ?_) hnI haI) (fun f s₃ h₃ => ?_) fun _ _ e => e
    · rcases List.mem_cons.mp hp with rfl | hp
      · exact ⟨hob₂, fun q => hLI q.symm, gI⟩
      · exact N₃ p hp
    · obtain ⟨rfl, h', tk', G', m', nx', rfl, hG', F₄, N₄, hnI', hJ'⟩ := h₃
      refine ⟨vs.length + 1 - (i + 1), by omega, i + 1, h', tk', G', m', nx', rfl, ⟨⟨ob, (N₄ _ (.head _)).1, hobc, hobd⟩, isl (N₄ _ (.tail _ (.head _))).1⟩, fun hb => hG' (hG hb), F₄, fun p hp => N₄ p (by rcases List.mem_cons.mp hp with rfl | hp; exact .tail _ (.head _); exact .tail _ (.tail _ hp)), hnI', hJ', hlt, rfl⟩
  · obtain rfl : i = vs.length := by omega
    refine W.done _ _ _ (by simpa using hst) fun h₁ tk₁ hk₁ => ?_
    obtain ⟨F₂, N₂⟩ := step h₁ hk₁
    exact wpAny_execs_nil (done m nx h₁ tk₁ G hJ hG F₂ N₂ fun p hp => (hnI p hp).2)
end
end Mine

namespace Mine
theorem fr_hide {g h : Heap} {L a : Addr} {m : Str → Option Value} (F : Fr g L h m) (hL : L ≠ a) (ha : g.get? a = none) : Fr g L (h.hide a) m :=
  ⟨F.ns.at' fun o e => (Heap.hide_ne h hL).trans e, fun b o e => hide_stays (fun b o e => F.keep b o e) ha b o e, F.above⟩
theorem below_amb {A : Around} {base h : Heap} {outer : List Env} {gd : Option (List Code)} {d u : Nat} (K : Below A base outer h) : Below (amb A.frames gd d u) base outer h := ⟨K.stack, K.stays, K.frames⟩
/-- words of four octets -/
inductive BytesAre : List Value → List Int → Prop where
  | nil : BytesAre [] []
  | cons {v : Int} {t : Tok} {us : List Value} {vals : List Int} : BytesAre us vals → BytesAre (.bytes (Builtin.Struct.intBytes false 4 v) t :: us) (v :: vals)
theorem BytesAre.snoc {us : List Value} {vals : List Int} (h : BytesAre us vals) (v : Int) (t : Tok) : BytesAre (us ++ [.bytes (Builtin.Struct.intBytes false 4 v) t]) (vals ++ [v]) := by
  induction h with
  | nil => exact .cons .nil
  | cons _ ih => exact .cons ih
theorem BytesAre.length {us : List Value} {vals : List Int} (h : BytesAre us vals) : us.length = vals.length := by
  induction h with
  | nil => rfl
  | cons _ ih => simp [ih]

local macro_rules | `(tactic| walk_at "exec While Compare cons nil") => `(tactic| refine Stop.mk ?_)
local macro_rules | `(tactic| walk_at "call ref") => `(tactic| refine Stop.mk ?_)
local macro_rules | `(tactic| walk_at "callWith ref") => `(tactic| ((with_reducible show wpAny _ _ (callWith _ (Value.ref 51) _ _ _) _ _ _); k_dflt (refine' callWith_bif ?X ?l ?_; (case X => assumption); (case l => k_is))))

structure PJ (W c a : Addr) (p : Nat) (m : Str → Option Value) : Prop where
  m1 : m (Str.ofString "words") = some (.ref W)
  m2 : ∃ t, m (Str.ofString "place") = some (.int p t)
  m3 : m (Str.ofString "code") = some (.ref c)
  m4 : m (Str.ofString "numbers") = some (.ref a)

set_option maxHeartbeats 4000000 in
theorem packed_spec {w : World} {me : ExcName → Option Value} {mg mb : Str → Option Value} {fr : Option (List Env)} {gd : Option (List Code)} {s : Shared} {Q E : Value → Shared → Prop} {a c dx : Addr} {vs : List Value} {ns : List Int} {k : Nat}
    (X : (Mine.hd.heap_39 w.params).In (((s.heap.hide a).hide c).hide dx)) (T : TP me mg mb (((s.heap.hide a).hide c).hide dx)) (ha : s.heap.get? a = some (PySem.W.listOf vs.toArray k)) (hc : s.heap.get? c = some (instObj 179 dx)) (hdx : s.heap.get? dx = some (PySem.W.dictOf [] 0)) (hac : a ≠ c ∧ a ≠ dx ∧ c ≠ dx)
    (hi : IntsAre vs ns) (hn : ∀ x ∈ ns, 0 ≤ x ∧ x ≤ 2 ^ 28) (hl : ns.length ≤ 30)
    (hE : valsS 31 ns = none → ∃ base outer, Below (amb fr gd 380 380) base outer (((s.heap.hide a).hide c).hide dx) ∧ ∀ e h' tk t, RaisedK base outer e (.type "Exception") t [] [] h' → Heap.UpToSlots (((s.heap.hide a).hide c).hide dx) h' → E (.ref e) { s with heap := h', toks := tk })
    (h1 : ∀ vals, valsS 31 ns = some vals → ∀ h' tk W us kw, s.heap.StaysIn h' → Made s.heap h' [(W, PySem.W.listOf us.toArray kw)] → BytesAre us vals → Q (.ref W) { s with heap := h', toks := tk }) :
    wpAny (model PySem.Challenge.rw_lh0074_01.row.prog w) (amb fr gd 380 380) (call (.ref 207) [.ref c, .ref a]) Q E s := by
  obtain ⟨hac, had, hcd⟩ := hac
  revert X; k_fill; intro X
  refine wpAny_call ?_
  have Hd : ∀ {b}, b ≠ a → b ≠ c → b ≠ dx → (((s.heap.hide a).hide c).hide dx).get? b = s.heap.get? b := fun h1 h2 h3 => (Heap.hide_ne _ h3).trans ((Heap.hide_ne _ h2).trans (Heap.hide_ne _ h1))
  k_dflt (refine' enterG (g := ((s.heap.hide a).hide c).hide dx) (news := [(a, PySem.W.listOf vs.toArray k), (c, instObj 179 dx), (dx, PySem.W.dictOf [] 0)]) (binds := [(Str.ofString "code", .ref c), (Str.ofString "numbers", .ref a)]) ?k1 ?g1 ?g2 ?g3 ?k2 ?k3 ?k4 ?k5 ?k6 ?k7 ?_ ?c1 ?c2 ?c3 ?k8; (case k1 => assumption); (case g1 => exact fun _ _ e => Heap.of_hide (Heap.of_hide (Heap.of_hide e))); (case g2 => simp only [Heap.hide_size]; exact Nat.le_refl _); (case g3 => (intro p hp; simp only [List.mem_cons, List.not_mem_nil, or_false] at hp; rcases hp with rfl | rfl | rfl; refine ⟨ha, ?_⟩; rw [Heap.hide_ne _ had, Heap.hide_ne _ hac]; exact Heap.hide_self _ _; refine ⟨hc, ?_⟩; rw [Heap.hide_ne _ hcd]; exact Heap.hide_self _ _; exact ⟨hdx, Heap.hide_self _ _⟩)); (case k2 => exact T.nolimit); (case k3 => exact (by decide : (380 : Nat) < 1000)); (case k4 => k_is); (case k5 => k_is); (case k6 => exact BindsTo.of_eq rfl); (case k7 => (intro y hy; simp only [List.mem_cons, List.not_mem_nil, or_false] at hy; rcases hy with rfl | rfl <;> rfl)); (case c1 => exact rfl); (case c2 => exact rfl); (case c3 => exact rfl); (case k8 => decide +kernel))
  intro L h₁ F N hlt hst hL
  (try dsimp only)
  (try k_fold)
  k_steps
  rename_i W _ lW _ _ F3 N3
  obtain ⟨lWa, lWc, lWd⟩ := lW
  refine Stop.go (While_inv2 (fun n m nx => ∃ us vals kw p, nx = [(W, PySem.W.listOf us.toArray kw), (a, PySem.W.listOf vs.toArray k), (c, instObj 179 dx), (dx, PySem.W.dictOf [] 0)] ∧ BytesAre us vals ∧ PJ W c a p m ∧ p ≤ ns.length ∧ ns.length - p < n ∧ us.length ≤ p ∧ valsS 31 ns = (valsS n (ns.drop p)).map (vals ++ ·)) (n₀ := 31) F3 N3 ?_ ?_)
  · exact ⟨[], [], 0, 0, rfl, .nil, ⟨rfl, ⟨_, rfl⟩, rfl, rfl⟩, Nat.zero_le _, Nat.lt_succ_of_le hl, Nat.le_refl _, by simp⟩
  · rintro n m₁ nx h₅ tk₅ F₅ N₅ ⟨us, vals, kw, p, rfl, hB, ⟨m1, ⟨tp, m2⟩, m3, m4⟩, hp, hpn, hup, hv⟩
    clear F3 N3
    replace F₅ := fr_know (fr_know (fr_know (fr_know F₅ (Str.ofString "code") _ m3) (Str.ofString "numbers") _ m4) (Str.ofString "place") _ m2) (Str.ofString "words") _ m1
    k_steps
    · have hpl : p < ns.length := by omega
      rename Fr _ _ _ _ => F6
      rename News _ _ _ _ => N6
      have ga := (N6 (a, PySem.W.listOf vs.toArray k) (by k_mem)).2.2
      have gc := (N6 (c, instObj 179 dx) (by k_mem)).2.2
      have gd' := (N6 (dx, PySem.W.dictOf [] 0) (by k_mem)).2.2
      have hkk := hide_stays (hide_stays (hide_stays (fun b o e => F6.keep b o e) ga) gc) gd'
      obtain ⟨xs, hxs⟩ : ∃ xs, xs = ns.drop p := ⟨_, rfl⟩
      have hxl : xs.length = ns.length - p := by rw [hxs, List.length_drop]
      have hx0 : ∀ x ∈ xs, 0 ≤ x := fun x hx => (hn x (by rw [hxs] at hx; exact List.mem_of_mem_drop hx)).1
      have hxne : xs ≠ [] := fun e => by rw [e] at hxl; simp at hxl; omega
      rw [← hxs] at hv
      refine Stop.go (wpAny_amb (d := 390) (u := 390) rfl (by exact (by decide : 381 ≤ 390)) (by exact (by decide : 383 ≤ 390)) ?_)
      refine comp_spec (X.keeps hkk) (T.keeps hkk) (N6 (a, PySem.W.listOf vs.toArray k) (by k_mem)).1 (N6 (c, instObj 179 dx) (by k_mem)).1 (N6 (dx, PySem.W.dictOf [] 0) (by k_mem)).1 ⟨hac, had, hcd⟩ hi hn hl hpl ?_ ?_
      · intro hnone
        have hnone' : valsS 31 ns = none := by
          rw [← hxs] at hnone
          rw [valsS_none hxne (by rw [hxl]; exact hpn) hnone] at hv
          cases q : valsS 31 ns with
          | none => rfl
          | some _ => rw [q] at hv; cases hv
        obtain ⟨base, outer, hB', hEE⟩ := hE hnone'
        have F6' := fr_hide (fr_hide (fr_hide F6 (fun e => (N6 (a, PySem.W.listOf vs.toArray k) (by k_mem)).2.1 e.symm) ga) (fun e => (N6 (c, instObj 179 dx) (by k_mem)).2.1 e.symm) gc) (fun e => (N6 (dx, PySem.W.dictOf [] 0) (by k_mem)).2.1 e.symm) gd'
        refine ⟨base, _, ?_, fun e h₉ tk₉ t R U => leave_onK hB' F6' R U fun h₁₀ R' U' => hEE e h₁₀ _ t R' U'⟩
        refine below_amb (Below.push hB' F6' ?_)
        rfl
      · intro i hki h₇ tk₇ V t1 t2 hst₇ M₇
        rw [← hxs] at hki M₇
        have N7 := news_made F6 N6 hst₇ M₇
        replace F6 := F6.keeps hst₇
        obtain ⟨i16, hfit, _⟩ := keyOf_some hki
        obtain ⟨v, hvv⟩ : ∃ v, v = valAt i xs := ⟨_, rfl⟩
        obtain ⟨v0, v1⟩ := hvv ▸ valAt_bounds i16 hx0 hfit
        rw [← hvv] at N7
        have hlp := lay_pos i i16
        have htk : 0 < takenAt i xs := by unfold takenAt; omega
        have htk' : takenAt i xs ≤ xs.length := by unfold takenAt; omega
        have VW : V ≠ W := made_off N6 M₇ _ (.head _) _ (.head _)
        clear N6
        simp only [List.cons_append, List.nil_append] at N7
        k_steps
        rename Fr _ _ _ _ => F8
        rename News _ _ _ _ => N8
        refine Stop.go (pack_call (F8.keep _ _ (X _ _ rfl)) (F8.keep _ _ (X _ _ rfl)) v0 v1 fun tk₉ t9 => ?_)
        have hus : us.length ≤ 30 := by omega
        k_steps
        rename Fr _ _ _ _ => F9
        rename News _ _ _ _ => N9
        refine ⟨_, _, _, _, n - 1, rfl, F9, ?_, by omega, us ++ [.bytes (Builtin.Struct.intBytes false 4 v) t9], vals ++ [v], kw + 1, p + takenAt i xs, rfl, hB.snoc v t9, ⟨rfl, ex_int ⟨_, rfl⟩ (by omega), rfl, rfl⟩, by omega, by omega, ?_, ?_⟩
        · intro q hq
          exact N9 q (by rw [List.push_toArray]; simp only [List.mem_cons, List.not_mem_nil, or_false] at hq ⊢; grind)
        · rw [List.length_append, List.length_singleton]; omega
        · rw [hv]
          obtain ⟨n', rfl⟩ : ∃ n', n = n' + 1 := ⟨n - 1, by omega⟩
          rw [valsS_some hxne hki, Option.map_map, ← hvv, ← List.drop_drop, ← hxs]
          simp [Function.comp_def]
    · rename Fr _ _ _ _ => F6
      rename News _ _ _ _ => N6
      have hpe : p = ns.length := by omega
      have hvals : valsS 31 ns = some vals := by
        rw [hv, hpe, List.drop_length]
        cases n with
        | zero => omega
        | succ n => simp [valsS]
      have hNa := (N6 (a, PySem.W.listOf vs.toArray k) (by k_mem)).1
      have hNc := (N6 (c, instObj 179 dx) (by k_mem)).1
      have hNd := (N6 (dx, PySem.W.dictOf [] 0) (by k_mem)).1
      show Q (.ref W) _
      refine h1 vals hvals _ _ W us kw (un3 F6.keep hac had hcd ha hc hdx hNa hNc hNd) ?_ hB
      intro q hq
      rw [List.mem_singleton] at hq
      subst hq
      refine ⟨(N6 _ (.head _)).1, ?_⟩
      rw [← Hd (Nat.ne_of_gt lWa) (Nat.ne_of_gt lWc) (Nat.ne_of_gt lWd)]
      exact (N6 _ (.head _)).2.2
end Mine

namespace Mine
theorem bytes_eq {v : Int} (h0 : 0 ≤ v) (h1 : v < 2 ^ 32) : Builtin.Struct.intBytes false 4 v = #[(v.toNat % 256).toUInt8, (v.toNat / 256 % 256).toUInt8, (v.toNat / 65536 % 256).toUInt8, (v.toNat / 16777216 % 256).toUInt8] := by
  have e : (v % 2 ^ (8 * 4)).toNat = v.toNat := by rw [Int.emod_eq_of_lt h0 (by simpa using h1)]
  unfold Builtin.Struct.intBytes Builtin.Memoryview.toLittleEndian
  rw [e]
  simp [List.range, List.range.loop]
theorem bytes_size {v : Int} (h0 : 0 ≤ v) (h1 : v < 2 ^ 32) : (Builtin.Struct.intBytes false 4 v).size = 4 := by rw [bytes_eq h0 h1]; rfl
theorem bytes_back {v : Int} (h0 : 0 ≤ v) (h1 : v < 2 ^ 32) : (Builtin.Memoryview.littleEndian (Builtin.Struct.intBytes false 4 v) : Int) = v := by
  rw [bytes_eq h0 h1]
  unfold Builtin.Memoryview.littleEndian
  simp
  omega
theorem bytes_row {v : Int} (h0 : 0 ≤ v) (h1 : v < 2 ^ 32) : (Builtin.Struct.intBytes false 4 v).toList.map (fun b => (b.toNat : Int)) = rowOf v := by
  rw [bytes_eq h0 h1]
  obtain ⟨n, rfl⟩ := Int.eq_ofNat_of_zero_le h0
  simp [rowOf]
  have hn : n < 4294967296 := by omega
  refine ⟨?_, ?_, ?_, ?_⟩
  · rw [Int.fmod_eq_emod_of_nonneg _ (by decide)]
  · rw [Int.fdiv_eq_ediv_of_nonneg _ (by decide), Int.fmod_eq_emod_of_nonneg _ (by decide)]
  · rw [Int.fdiv_eq_ediv_of_nonneg _ (by decide), Int.fmod_eq_emod_of_nonneg _ (by decide)]
  · rw [Int.fdiv_eq_ediv_of_nonneg _ (by decide)]; omega
end Mine

namespace Mine
def keyV (v : Int) : Nat := (v / 2 ^ 28).toNat
def decL (v : Int) (q : Nat) : List Int := (List.range (min (layAt (keyV v)).length q)).map (decAt (keyV v) v)
def stepU (wanted : Nat) (acc : List Int) (v : Int) : List Int := if acc.length < wanted then acc ++ decL v (wanted - acc.length) else acc
def unpk (wanted : Nat) (vals : List Int) : List Int := vals.foldl (stepU wanted) []
theorem stepU_len {wanted : Nat} {acc : List Int} {v : Int} (h : acc.length ≤ wanted) : (stepU wanted acc v).length ≤ wanted := by
  unfold stepU
  split
  · simp [decL]; omega
  · exact h
theorem foldU_len {wanted : Nat} : ∀ {vals acc : List Int}, acc.length ≤ wanted → (vals.foldl (stepU wanted) acc).length ≤ wanted
  | [], _, h => h
  | v :: vals, acc, h => by rw [List.foldl_cons]; exact foldU_len (stepU_len h)
theorem take_stepU {wanted : Nat} {vals : List Int} {i : Nat} {v : Int} (h : vals[i]? = some v) : (vals.take (i + 1)).foldl (stepU wanted) [] = stepU wanted ((vals.take i).foldl (stepU wanted) []) v := by
  rw [List.take_add_one, h]; simp
theorem BytesAre.get {us : List Value} {vals : List Int} (h : BytesAre us vals) : ∀ {i : Nat} {u : Value}, us[i]? = some u → ∃ v t, vals[i]? = some v ∧ u = .bytes (Builtin.Struct.intBytes false 4 v) t := by
  induction h with
  | nil => intro i u e; simp at e
  | cons _ ih =>
    intro i u e
    cases i with
    | zero => simp at e; exact ⟨_, _, by simp, e.symm⟩
    | succ i => simpa using ih (i := i) (by simpa using e)
theorem items_ints {F : Nat → Int} {acc : Array Value} {n : Nat} (h : ItemsOf (fun j y => ∃ t, y = Value.int (F j) t) acc n) : IntsAre acc.toList ((List.range n).map F) := by
  have gen : ∀ (l : List Value) (k : Nat), (∀ j v, l[j]? = some v → ∃ t, v = Value.int (F (k + j)) t) → IntsAre l ((List.range' k l.length).map F) := by
    intro l
    induction l with
    | nil => intro k _; exact .nil
    | cons v l ih =>
      intro k hk
      obtain ⟨t, rfl⟩ := hk 0 v rfl
      exact .cons _ _ (ih (k + 1) fun j v hv => by
        obtain ⟨t, e⟩ := hk (j + 1) v (by simpa using hv)
        exact ⟨t, by rw [e]; congr 2; omega⟩)
  have := gen acc.toList 0 fun j v hv => by
    have := h.2 j v (by simpa using hv)
    simpa using this
  rw [List.range_eq_range']
  have e : acc.toList.length = n := by simpa using h.1
  rw [e] at this; exact this

local macro_rules | `(tactic| walk_at "exec For Name Name cons nil") => `(tactic| refine Stop.mk ?_)
local macro_rules | `(tactic| walk_at "pyIter ref") => `(tactic| refine Stop.mk ?_)
local macro_rules | `(tactic| walk_at "call ref") => `(tactic| refine Stop.mk ?_)
local macro_rules | `(tactic| walk_at "call type:list") => `(tactic| refine Stop.mk ?_)
local macro_rules | `(tactic| walk_at "callWith ref") => `(tactic| ((with_reducible show wpAny _ _ (callWith _ (Value.ref 52) _ _ _) _ _ _); k_dflt (refine' callWith_bif ?X ?l ?_; (case X => assumption); (case l => k_is))))

structure UJ (c W A : Addr) (wanted : Nat) (tw : Tok) (m : Str → Option Value) : Prop where
  m1 : m (Str.ofString "numbers") = some (.ref A)
  m2 : m (Str.ofString "code") = some (.ref c)
  m3 : m (Str.ofString "wanted") = some (.int wanted tw)

set_option maxHeartbeats 4000000 in
theorem unpacked_spec {w : World} {me : ExcName → Option Value} {mg mb : Str → Option Value} {fr : Option (List Env)} {gd : Option (List Code)} {s : Shared} {Q E : Value → Shared → Prop} {W c dx : Addr} {us : List Value} {vals : List Int} {wanted : Nat} {tw : Tok}
    (X : (Mine.hd.heap_39 w.params).In ((s.heap.hide c).hide dx)) (T : TP me mg mb ((s.heap.hide c).hide dx)) (hW : ((s.heap.hide c).hide dx).IsList W us.toArray) (hc : s.heap.get? c = some (instObj 179 dx)) (hdx : s.heap.get? dx = some (PySem.W.dictOf [] 0)) (hcd : c ≠ dx)
    (hB : BytesAre us vals) (hv : ∀ v ∈ vals, ∃ (i : Nat) (lo : Int), i < 16 ∧ v = (i : Int) * 2 ^ 28 + lo ∧ 0 ≤ lo ∧ lo < 2 ^ 28) (hw : wanted ≤ 30)
    (h1 : ∀ h' tk G A as k, (AllBare s.gens → AllBare G) → s.heap.StaysIn h' → Made s.heap h' [(A, PySem.W.listOf as.toArray k)] → IntsAre as (unpk wanted vals) → Q (.ref A) { s with heap := h', toks := tk, gens := G }) :
    wpAny (model PySem.Challenge.rw_lh0074_01.row.prog w) (amb fr gd 370 360) (call (.ref 214) [.ref c, .ref W, .int wanted tw]) Q E s := by
  revert X; k_fill; intro X
  refine wpAny_call ?_
  k_dflt (refine' enterG (g := (s.heap.hide c).hide dx) (news := [(c, instObj 179 dx), (dx, PySem.W.dictOf [] 0)]) (binds := [(Str.ofString "code", .ref c), (Str.ofString "words", .ref W), (Str.ofString "wanted", .int wanted tw)]) ?k1 ?g1 ?g2 ?g3 ?k2 ?k3 ?k4 ?k5 ?k6 ?k7 ?_ ?c1 ?c2 ?c3 ?k8; (case k1 => assumption); (case g1 => exact fun _ _ e => Heap.of_hide (Heap.of_hide e)); (case g2 => simp only [Heap.hide_size]; exact Nat.le_refl _); (case g3 => (intro p hp; simp only [List.mem_cons, List.not_mem_nil, or_false] at hp; rcases hp with rfl | rfl; refine ⟨hc, ?_⟩; rw [Heap.hide_ne _ hcd]; exact Heap.hide_self _ _; exact ⟨hdx, Heap.hide_self _ _⟩)); (case k2 => exact T.nolimit); (case k3 => exact (by decide : (370 : Nat) < 1000)); (case k4 => k_is); (case k5 => k_is); (case k6 => exact BindsTo.of_eq rfl); (case k7 => (intro y hy; simp only [List.mem_cons, List.not_mem_nil, or_false] at hy; rcases hy with rfl | rfl | rfl <;> rfl)); (case c1 => exact rfl); (case c2 => exact rfl); (case c3 => exact rfl); (case k8 => decide +kernel))
  intro L h₁ F N hlt hst hL
  (try dsimp only)
  (try k_fold)
  k_steps
  refine Stop.go (wpAny_For ?_ (fun _ => rfl))
  k_steps
  rename Fr _ _ _ _ => F3
  rename News _ _ _ _ => N3
  refine Stop.go (for_listG (fun i m nx => ∃ A as k, nx = [(A, PySem.W.listOf as.toArray k), (c, instObj 179 dx), (dx, PySem.W.dictOf [] 0)] ∧ (A ≠ c ∧ A ≠ dx) ∧ IntsAre as ((vals.take i).foldl (stepU wanted) []) ∧ UJ c W A wanted tw m) rfl rfl rfl hW F3 N3 ⟨_, [], 0, rfl, ⟨?_, ?_⟩, .nil, rfl, rfl, rfl⟩ ?_ ?_)
  · rename (c < _ ∧ dx < _) => lA
    exact Nat.ne_of_gt lA.1
  · rename (c < _ ∧ dx < _) => lA
    exact Nat.ne_of_gt lA.2
  · rintro E' i u m₁ nx h₅ tk₅ G It ob hi hu ⟨A, as, k, rfl, ⟨hAc, hAd⟩, hI, m1, m2, m3⟩ hG F₅ N₅ hnI
    clear F3 N3
    obtain ⟨v, tb, hvi, rfl⟩ := hB.get hu
    obtain ⟨acc, hacc⟩ : ∃ acc, acc = (vals.take i).foldl (stepU wanted) [] := ⟨_, rfl⟩
    have hal : acc.length ≤ wanted := hacc ▸ foldU_len (Nat.zero_le _)
    rw [← hacc] at hI
    obtain ⟨key, lo, key16, hvk, lo0, lo1⟩ := hv v (List.mem_of_getElem? hvi)
    have v0 : 0 ≤ v := by omega
    have v1 : v < 2 ^ 32 := by omega
    have hkv : keyV v = key := by unfold keyV; rw [hvk]; omega
    replace F₅ := fr_know (fr_know (fr_know F₅ (Str.ofString "numbers") _ m1) (Str.ofString "code") _ m2) (Str.ofString "wanted") _ m3
    replace N₅ : News ((s.heap.hide c).hide dx) L h₅ [(A, PySem.W.listOf as.toArray k), (c, instObj 179 dx), (dx, PySem.W.dictOf [] 0), (It, ob)] := fun p hp => N₅ p (by simp only [List.mem_cons, List.not_mem_nil, or_false] at hp ⊢; grind)
    k_steps
    · have hal' : acc.length < wanted := by omega
      rename Fr _ _ _ _ => F6
      rename News _ _ _ _ => N6
      refine Stop.go (unpack_call (F6.keep _ _ (X _ _ rfl)) (F6.keep _ _ (X _ _ rfl)) (bytes_size v0 v1) fun h₇ Tt tk₇ t' hk₇ hT hTe => ?_)
      rw [bytes_back v0 v1] at hT
      have N7 := news_pushed F6 N6 hk₇ (hTe ▸ hT) hTe.symm
      replace F6 := F6.keeps hk₇
      clear N6
      k_steps
      rename Fr _ _ _ _ => F8
      rename News _ _ _ _ => N8
      have gc := (N8 (c, instObj 179 dx) (by k_mem)).2.2
      have gd' := (N8 (dx, PySem.W.dictOf [] 0) (by k_mem)).2.2
      have hkk := hide_stays (hide_stays (fun b o e => F8.keep b o e) gc) gd'
      have hz : ((wanted : Int) - (acc.length : Int)) = ((wanted - acc.length : Nat) : Int) := by omega
      have nlim := (T.keeps hkk).nolimit
      have hNc := (N8 (c, instObj 179 dx) (by k_mem)).1
      have hNd := (N8 (dx, PySem.W.dictOf [] 0) (by k_mem)).1
      rw [hz]
      refine Stop.go (wpAny_amb (d := 390) (u := 390) rfl (by exact (by decide : 371 ≤ 390)) (by exact (by decide : 363 ≤ 390)) ?_)
      refine decomp_call (X.keeps hkk) (T.keeps hkk) hNc hNd hcd key16 hvk lo0 lo1 (by omega) fun C h₈ tk₈ G₈ news₈ hG₈ hst₈ mc md R => ?_
      have F8' := F8
      have F9 := F8.keeps hst₈
      clear F8
      k_steps
      refine Stop.go (list_ready R rfl (by exact (by decide : 371 ≤ 395)) (by exact (by decide : 363 ≤ 375)) nlim ?_ fun h₉ tk₉ G₉ ac cc m₉ hG₉ Fc Nc hL hIt => ?_)
      · rw [sizeLine_eq]; omega
      · have hst₉ := stays_unhide (stays_unhide (fun b o e => Fc.keep b o e) ((Heap.hide_ne _ fun e => hcd e.symm).trans hNd) (Nc _ md).1) hNc (Nc _ mc).1
        have hCs := Fc.above
        rw [Heap.hide_size, Heap.hide_size] at hCs
        have hLC : L ≠ C + 2 := Nat.ne_of_lt (Nat.lt_of_lt_of_le F8'.ns.lt (Nat.le_trans hCs (Nat.le_add_right _ _)))
        have hg2 : ((s.heap.hide c).hide dx).get? (C + 2) = none := by
          cases q : ((s.heap.hide c).hide dx).get? (C + 2) with
          | none => rfl
          | some o => exact absurd (Heap.lt_size (F8'.keep _ _ q)) (Nat.not_lt.mpr (Nat.le_trans hCs (Nat.le_add_right _ _)))
        have N10 : News ((s.heap.hide c).hide dx) L h₉ ((C + 2, PySem.W.listOf ac.toList.toArray cc) :: _) := fun p hp => by
          rcases List.mem_cons.mp hp with rfl | hp
          · exact ⟨by simpa using hL, hLC.symm, hg2⟩
          · exact ⟨hst₉ _ _ (N8 p hp).1, (N8 p hp).2⟩
        have F10 := F8'.keeps hst₉
        have hds := items_ints hIt
        obtain ⟨ds, hdd⟩ : ∃ ds, ds = (List.range (min (layAt key).length (wanted - acc.length))).map (decAt key v) := ⟨_, rfl⟩
        have hdl : ds.length ≤ 30 := by rw [hdd]; simp; omega
        have hal2 : acc.length ≤ 30 := by omega
        rw [← hdd] at hds
        clear N8 F9 F8' Fc Nc R hL hIt
        k_steps
        rename_i D ws _ hID lD _ F11 N11
        obtain ⟨_, _, _, lDc, lDd, lDI⟩ := lD
        refine ⟨rfl, _, _, G₉, _, [(D, PySem.W.listOf ws.toArray 0), (c, instObj 179 dx), (dx, PySem.W.dictOf [] 0)], rfl, fun hb => hG₉ (hG₈ hb), F11, fun p hp => N11 p (by simp only [List.mem_cons, List.mem_append, List.not_mem_nil, or_false] at hp ⊢; grind), ?_, D, ws, 0, rfl, ⟨Nat.ne_of_gt lDc, Nat.ne_of_gt lDd⟩, ?_, rfl, rfl, rfl⟩
        · intro p hp
          simp only [List.mem_cons, List.not_mem_nil, or_false] at hp
          rcases hp with rfl | rfl | rfl
          · exact Nat.ne_of_gt lDI
          · exact hnI _ (.tail _ (.head _))
          · exact hnI _ (.tail _ (.tail _ (.head _)))
        · rw [take_stepU hvi, ← hacc, stepU, if_pos hal', decL, hkv, ← hdd]
          exact hID
    · have hal' : ¬ acc.length < wanted := by omega
      rename Fr _ _ _ _ => F6
      rename News _ _ _ _ => N6
      refine ⟨rfl, _, _, G, _, [(A, PySem.W.listOf as.toArray k), (c, instObj 179 dx), (dx, PySem.W.dictOf [] 0)], rfl, id, F6, fun p hp => N6 p (by simp only [List.mem_cons, List.mem_append, List.not_mem_nil, or_false] at hp ⊢; grind), hnI, A, as, k, rfl, ⟨hAc, hAd⟩, ?_, rfl, rfl, rfl⟩
      rw [take_stepU hvi, ← hacc, stepU, if_neg hal']
      exact hI
  · rintro m₁ nx h₅ tk₅ G ⟨A, as, k, rfl, ⟨hAc, hAd⟩, hI, m1, m2, m3⟩ hG F₅ N₅
    replace F₅ := fr_know F₅ (Str.ofString "numbers") _ m1
    clear F3 N3
    dsimp only
    k_steps
    have hNc := (N₅ (c, instObj 179 dx) (by k_mem)).1
    have hNd := (N₅ (dx, PySem.W.dictOf [] 0) (by k_mem)).1
    have hNA := N₅ _ (.head _)
    show Q (.ref A) _
    refine h1 _ _ _ A as k hG ?_ ?_ ?_
    · exact stays_unhide (stays_unhide F₅.keep ((Heap.hide_ne _ fun e => hcd e.symm).trans hdx) hNd) hc hNc
    · intro q hq
      rw [List.mem_singleton] at hq
      subst hq
      refine ⟨hNA.1, ?_⟩
      rw [← Heap.hide_ne s.heap hAc, ← Heap.hide_ne _ hAd]
      exact hNA.2.2
    · rw [hB.length, List.take_length] at hI
      exact hI
end Mine

namespace Mine
theorem fit_pre {i : Nat} {xs : List Int} (hf : fitsB (layAt i) xs = true) : ∀ t < takenAt i xs, xs.getD t 0 < 2 ^ ((layAt i).getD t 0).toNat := fun t ht => fitsB_at.mp hf t ht
theorem val_form {i : Nat} {xs : List Int} (i16 : i < 16) (hn : ∀ x ∈ xs, 0 ≤ x) (hf : fitsB (layAt i) xs = true) :
    ∃ lo, valAt i xs = (i : Int) * 2 ^ 28 + lo ∧ 0 ≤ lo ∧ lo < 2 ^ 28 := by
  have hp := fit_pre hf
  obtain ⟨_, h2⟩ := comp_full i16 hp
  obtain ⟨l0, l1⟩ := lowS_bounds (ws := layAt i) (xs := xs) (j := takenAt i xs) (by unfold takenAt; omega) (by unfold takenAt; omega) hn hp
  have ho := offs_le (layAt i) (takenAt i xs)
  rw [lay_bits i i16] at ho
  have hpw : (2 : Int) ^ offs (layAt i) (takenAt i xs) ≤ 2 ^ 28 := by
    have := Nat.pow_le_pow_right (n := 2) (by decide) ho
    exact_mod_cast this
  exact ⟨_, h2.symm, l0, by omega⟩
theorem keyV_val {i : Nat} {xs : List Int} (i16 : i < 16) (hn : ∀ x ∈ xs, 0 ≤ x) (hf : fitsB (layAt i) xs = true) : keyV (valAt i xs) = i := by
  obtain ⟨lo, h, h0, h1⟩ := val_form i16 hn hf
  unfold keyV; rw [h]; omega
theorem dec_val {i j : Nat} {xs : List Int} (hn : ∀ x ∈ xs, 0 ≤ x) (hf : fitsB (layAt i) xs = true) (hj : j < takenAt i xs) : decAt i (valAt i xs) j = xs.getD j 0 := by
  have hp := fit_pre hf
  have hj1 : j < (layAt i).length := by unfold takenAt at hj; omega
  have hj2 : j < xs.length := by unfold takenAt at hj; omega
  obtain ⟨l0, l1⟩ := lowS_bounds (ws := layAt i) (xs := xs) (j := j) (by omega) (by omega) hn fun t ht => hp t (by omega)
  have hx := hp j hj
  have hx0 : 0 ≤ xs.getD j 0 := by
    simp only [List.getD, List.getElem?_eq_getElem hj2, Option.getD_some]
    exact hn _ (List.getElem_mem hj2)
  unfold decAt valAt
  rw [pk_low (j := j) (by omega) (by omega), pk_step (w := (layAt i).getD j 0) (by simp [List.getD, hj1]), if_pos hj2]
  rw [Int.add_mul_ediv_left _ _ (by have : (0 : Int) < 2 ^ offs (layAt i) j := Int.pow_pos (by decide); omega), Int.ediv_eq_zero_of_lt l0 l1, Int.zero_add, Int.add_mul_emod_self_left, Int.emod_eq_of_lt hx0 hx]
theorem decL_val {i q : Nat} {xs : List Int} (i16 : i < 16) (hn : ∀ x ∈ xs, 0 ≤ x) (hf : fitsB (layAt i) xs = true) (hq : q ≤ xs.length) : decL (valAt i xs) q = xs.take (min (layAt i).length q) := by
  unfold decL
  rw [keyV_val i16 hn hf]
  apply List.ext_getElem?
  intro j
  by_cases h : j < min (layAt i).length q
  · have hj2 : j < xs.length := by omega
    rw [List.getElem?_map, List.getElem?_range h, List.getElem?_take_of_lt h]
    simp only [Option.map_some]
    rw [dec_val hn hf (by unfold takenAt; omega)]
    simp [List.getD, hj2]
  · rw [List.getElem?_eq_none (by simp; omega), List.getElem?_eq_none (by simp; omega)]
theorem unpk_val {wanted : Nat} : ∀ {n : Nat} {xs vals acc : List Int}, valsS n xs = some vals → xs.length < n → (∀ x ∈ xs, 0 ≤ x) → acc.length ≤ wanted → wanted ≤ acc.length + xs.length → vals.foldl (stepU wanted) acc = (acc ++ xs).take wanted
  | 0, _, _, _, _, h, _, _, _ => absurd h (Nat.not_lt_zero _)
  | n + 1, [], vals, acc, hv, _, _, h1, h2 => by
    simp [valsS] at hv; subst hv
    simp at h2
    have : wanted = acc.length := by omega
    subst this; simp
  | n + 1, x :: xs, vals, acc, hv, hl, hn, h1, h2 => by
    obtain ⟨ys, hys⟩ : ∃ ys, ys = x :: xs := ⟨_, rfl⟩
    have hne : ys ≠ [] := by rw [hys]; simp
    rw [← hys] at hv hl hn h2 ⊢
    cases hk : keyOf ys with
    | none => rw [valsS_none hne hl hk] at hv; cases hv
    | some i =>
      rw [valsS_some hne hk] at hv
      cases hr : valsS n (ys.drop (takenAt i ys)) with
      | none => rw [hr] at hv; simp at hv
      | some vr =>
        rw [hr] at hv
        simp at hv; subst hv
        obtain ⟨i16, hf, _⟩ := keyOf_some hk
        have hlp := lay_pos i i16
        have hyl : 0 < ys.length := by rw [hys]; simp
        have ht : takenAt i ys = min (layAt i).length ys.length := rfl
        have hn' : ∀ x ∈ ys.drop (takenAt i ys), 0 ≤ x := fun x hx => hn x (List.mem_of_mem_drop hx)
        rw [List.foldl_cons]
        by_cases hw : acc.length < wanted
        · rw [stepU, if_pos hw, decL_val i16 hn hf (by omega)]
          by_cases hq : (layAt i).length ≤ wanted - acc.length
          · have e : min (layAt i).length (wanted - acc.length) = takenAt i ys := by rw [ht]; omega
            rw [e, unpk_val hr (by rw [List.length_drop]; omega) hn' (by rw [List.length_append, List.length_take]; omega) (by rw [List.length_append, List.length_take, List.length_drop]; omega)]
            rw [List.append_assoc, List.take_append_drop]
          · have e : min (layAt i).length (wanted - acc.length) = wanted - acc.length := by omega
            have el : (acc ++ ys.take (wanted - acc.length)).length = wanted := by rw [List.length_append, List.length_take]; omega
            rw [e, unpk_val hr (by rw [List.length_drop]; omega) hn' (by omega) (by omega)]
            rw [List.take_append_of_le_length (by omega), List.take_of_length_le (by omega), List.take_append, List.take_of_length_le (l := acc) (by omega)]
        · have hwe : acc.length = wanted := by omega
          rw [stepU, if_neg hw, unpk_val hr (by rw [List.length_drop]; omega) hn' (by omega) (by omega)]
          rw [List.take_append_of_le_length (by omega), List.take_append_of_le_length (by omega)]
theorem vals_form : ∀ {n : Nat} {xs vals : List Int}, valsS n xs = some vals → (∀ x ∈ xs, 0 ≤ x) → ∀ v ∈ vals, ∃ (i : Nat) (lo : Int), i < 16 ∧ v = (i : Int) * 2 ^ 28 + lo ∧ 0 ≤ lo ∧ lo < 2 ^ 28
  | 0, _, vals, h, _, v, hv => by simp [valsS] at h; subst h; simp at hv
  | n + 1, [], vals, h, _, v, hv => by simp [valsS] at h; subst h; simp at hv
  | n + 1, x :: xs, vals, h, hn, v, hv => by
    rw [valsS] at h
    cases hk : keyOf (x :: xs) with
    | none => rw [hk] at h; cases h
    | some i =>
      rw [hk] at h
      cases hr : valsS n ((x :: xs).drop (takenAt i (x :: xs))) with
      | none => simp only [hr] at h; cases h
      | some vr =>
        simp only [hr, Option.map_some, Option.some.injEq] at h
        subst h
        obtain ⟨i16, hf, _⟩ := keyOf_some hk
        rcases List.mem_cons.mp hv with rfl | hv
        · obtain ⟨lo, h1, h2, h3⟩ := val_form i16 hn hf
          exact ⟨i, lo, i16, h1, h2, h3⟩
        · exact vals_form hr (fun x hx => hn x (List.mem_of_mem_drop hx)) v hv
end Mine

namespace Mine
theorem vals_len : ∀ {n : Nat} {xs vals : List Int}, valsS n xs = some vals → vals.length ≤ xs.length
  | 0, _, vals, h => by simp [valsS] at h; subst h; simp
  | n + 1, [], vals, h => by simp [valsS] at h; subst h; simp
  | n + 1, x :: xs, vals, h => by
    rw [valsS] at h
    cases hk : keyOf (x :: xs) with
    | none => rw [hk] at h; cases h
    | some i =>
      rw [hk] at h
      cases hr : valsS n ((x :: xs).drop (takenAt i (x :: xs))) with
      | none => simp only [hr] at h; cases h
      | some vr =>
        simp only [hr, Option.map_some, Option.some.injEq] at h
        subst h
        obtain ⟨i16, _, _⟩ := keyOf_some hk
        have hlp := lay_pos i i16
        have ih := vals_len hr
        have ht : takenAt i (x :: xs) = min (layAt i).length (x :: xs).length := rfl
        rw [List.length_drop] at ih
        simp only [List.length_cons] at ih ht ⊢
        omega
def sums (xs : List Int) : List Int := (List.range xs.length).map fun j => sumTo xs (j + 1)
theorem sums_len (xs : List Int) : (sums xs).length = xs.length := by simp [sums]
theorem sums_getD {xs : List Int} {i : Nat} (h : i < xs.length) : (sums xs).getD i 0 = sumTo xs (i + 1) := by
  simp [sums, List.getD, h]
theorem enc_sums (xs : List Int) : (List.range (sums xs).length).map (encAt (sums xs)) = xs := by
  apply List.ext_getElem?
  intro j
  by_cases h : j < xs.length
  · rw [List.getElem?_map, List.getElem?_range (by rw [sums_len]; exact h), List.getElem?_eq_getElem h]
    simp only [Option.map_some, Option.some.injEq]
    have hx : xs.getD j 0 = xs[j] := by simp [List.getD, h]
    unfold encAt
    rw [sums_getD h]
    cases j with
    | zero => simp [sumTo] at hx ⊢; omega
    | succ j =>
      rw [if_neg (by omega), Nat.add_sub_cancel, sums_getD (by omega), sumTo, hx]
      omega
  · rw [List.getElem?_eq_none (by simp [sums_len]; omega), List.getElem?_eq_none (by omega)]
end Mine

namespace Mine
section
variable {prog : Program} {w : World} {A : Around} {E : Value → Shared → Prop} {s : Shared} {R : Result → Shared → Prop} {b : Array UInt8} {t : Tok}
theorem bytes_len_lookup : typeLookup (.type "bytes") (Str.ofString "__len__") = pure (some (.builtin "bytes.__len__")) := by rw [typeLookup_type, builtinLookup_eq_fast]; kernel_rfl
theorem list_initB {S : Addr} (hh : A.handled = none) (hn : b.size ≤ sizeLine) (hS : s.heap.get? S = some { cls := .type "list", data := .seq #[] })
    (hR : ∀ h' tk acc' c', (∀ a o, a ≠ S → s.heap.get? a = some o → h'.get? a = some o) → h'.get? S = some { cls := .type "list", dict := none, data := .seq acc' c', slots := #[] } → ItemsOf (fun i v => ∃ c u, b[i]? = some c ∧ v = .int (c.toNat : Int) u) acc' b.size → R (.ok (.ret .none)) { s with heap := h', toks := tk }) :
    wpAny (model prog w) A.in1 (Builtin.«list.__init__» ⟨[.ref S, .bytes b t], []⟩)
      (fun fin s' => match fin with | .done f => R (.ok f) s' | .again c' => c'.quiet = true ∧ codeAny (model prog w) A c' R s') (fun e s' => R (.error e) s') s := by
  show wpAny _ A.in1 (do let old ← Builtin.List.listItems (.ref S); Builtin.List.listUpdate (.ref S) (fun _ => #[]); letGo old.toList.reverse; Builtin.List.listExtendWith (.ref S) (.bytes b t) .none) _ _ s
  refine wpAny_bind ?_
  unfold Builtin.List.listItems
  refine wpAny_bind (wpAny_seqItems hS rfl (wpAny_pure ?_))
  show wpAny _ A.in1 (updateSeq S (fun _ => #[]) >>= fun _ => letGo (#[] : Array Value).toList.reverse >>= fun _ => Builtin.List.listExtendWith (.ref S) (.bytes b t) .none) _ _ s
  refine wpAny_bind (wpAny_updateSeq hS rfl ?_)
  have hS₂ := Heap.get?_update_self (Obj.mapSeq (fun _ => (#[] : Array Value))) hS rfl
  have oth : ∀ b o, b ≠ S → s.heap.get? b = some o → (s.heap.update S (Obj.mapSeq (fun _ => (#[] : Array Value)))).get? b = some o :=
    fun b o hb e => (Heap.get?_update_other _ _ (Ne.symm hb)).trans e
  refine wpAny_bind (wpAny_letGo ?_)
  generalize hH : s.heap.update S (Obj.mapSeq (fun _ => (#[] : Array Value))) = H at hS₂ oth ⊢
  have hHs : H.objs.size = s.heap.objs.size := by rw [← hH]; exact Heap.size_after_update ..
  unfold Builtin.List.listExtendWith
  refine wpAny_bind (wpAny_typeOf (T := "bytes") (v := .bytes b t) rfl ?_)
  have h1 : Builtin.List.listSameRef (.ref S) (.bytes b t) = false := rfl
  have h2 : (Value.type "bytes" == Value.type "list") = false := by decide
  have h3 : (Value.type "bytes" == Value.type "tuple") = false := by decide
  simp only [h1, h2, h3, Bool.or_false, Bool.false_eq_true, if_false]
  refine wpAny_bind (KBw.pyIter_bytes ?_)
  refine wpAny_bind (wpAny_holding ?_)
  unfold Builtin.List.listLengthHint
  refine wpAny_bind (wpAny_specialOf (T := "bytes") (v := .bytes b t) rfl bytes_len_lookup ?_)
  wp_delta
  refine wpAny_bind (wpAny_isInstance (T := "bytes") (v := .bytes b t) (b := true) rfl (by rw [isSubtype_type]; kernel_rfl) ?_)
  show wpAny _ A.in1 (typeOf (Value.bytes b t) >>= _) _ _ _
  refine wpAny_bind (wpAny_typeOf (T := "bytes") (v := .bytes b t) rfl ?_)
  refine wpAny_pure ?_
  rw [if_neg (by decide)]
  have hSlt : S < H.objs.size := Heap.lt_size hS₂
  have hSf : S ∉ [H.objs.size] := fun hm => absurd (List.mem_singleton.mp hm) (Nat.ne_of_lt hSlt)
  refine wpAny_pure ⟨plainId_quiet F.plain_extend_loop _, codeAny_extend_loopS (KBw.walks (A := A.in1) hh H.objs.size b t).toS hn _ hSf _ b.size 0 _ _ _ rfl (Nat.zero_le _) ⟨_, Heap.get?_push_size _ rfl, rfl, rfl⟩ (Heap.get?_push_of_some _ hS₂) (ItemsOf.nil _) fun s' acc' c' hm hS' hacc => ?_⟩
  have e : s' = { s with heap := s'.heap, toks := s'.toks } := by
    have h1 := hm.drawn; have h2 := hm.os; have h3 := hm.gens
    cases s'; cases s; simp at h1 h2 h3; simp [h1, h2, h3]
  rw [e]
  refine hR _ _ acc' c' (fun a o ha ho => ?_) hS' hacc
  refine hm.heap a o (fun hb => ?_) (Heap.get?_push_of_some _ (oth a o ha ho))
  have hlt := Heap.lt_size ho
  rcases List.mem_cons.mp hb with h | h
  · exact ha h
  · rw [List.mem_singleton.mp h, hHs] at hlt; exact absurd hlt (Nat.lt_irrefl _)

theorem call_listB {Q : Value → Shared → Prop} (hh : A.handled = none) (hn : b.size ≤ sizeLine)
    (hQ : ∀ h' tk acc' c', s.heap.StaysIn h' → s.heap.get? s.heap.objs.size = none → h'.get? s.heap.objs.size = some { cls := .type "list", dict := none, data := .seq acc' c', slots := #[] } → ItemsOf (fun i v => ∃ c u, b[i]? = some c ∧ v = .int (c.toNat : Int) u) acc' b.size → Q (.ref s.heap.objs.size) { s with heap := h', toks := tk }) :
    wpAny (model prog w) A (call (.type "list") [.bytes b t]) Q E s := by
  refine callType_codes (Q₁ := fun obj s₁ => obj = .ref s.heap.objs.size ∧ s₁ = { s with heap := s.heap.push { cls := .type "list", data := .seq #[] } }) F.called_list (F.typeCall_list_1 _) F.entry_list_init
    (code_list_new _ ⟨rfl, rfl⟩) fun obj s₁ h₁ => ?_
  obtain ⟨rfl, rfl⟩ := h₁
  have hS : (s.heap.push { cls := .type "list", data := .seq #[] }).get? s.heap.objs.size = some { cls := .type "list", data := .seq #[] } := Heap.get?_push_size _ rfl
  have hnone : s.heap.get? s.heap.objs.size = none := by
    cases q : s.heap.get? s.heap.objs.size with
    | none => rfl
    | some o => exact absurd (Heap.lt_size q) (Nat.lt_irrefl _)
  refine ⟨⟨_, hS, rfl⟩, F.args_list_init_2 _ _, list_initB (A := A.in1) hh hn hS fun h' tk acc' c' hk hS' hI => ⟨rfl, ?_⟩⟩
  exact hQ h' tk acc' c' (fun a o e => hk a o (fun q => by rw [q, hnone] at e; cases e) (Heap.get?_push_of_some _ e)) hnone hS' hI
end
end Mine

namespace Mine
inductive RowsAt (h : Heap) : List Value → List (List Int) → Prop where
  | nil : RowsAt h [] []
  | cons {T : Addr} {its : Array Value} {ns : List Int} {ys : List Value} {rows : List (List Int)} : h.IsList T its → IntsAre its.toList ns → RowsAt h ys rows → RowsAt h (.ref T :: ys) (ns :: rows)
theorem RowsAt.length {h : Heap} {ys : List Value} {rows : List (List Int)} (r : RowsAt h ys rows) : ys.length = rows.length := by
  induction r with
  | nil => rfl
  | cons _ _ _ ih => simp [ih]
theorem RowsAt.get {h : Heap} {ys : List Value} {rows : List (List Int)} (r : RowsAt h ys rows) : ∀ {j : Nat}, j < ys.length → ∃ T its ns, ys[j]? = some (.ref T) ∧ rows[j]? = some ns ∧ h.IsList T its ∧ IntsAre its.toList ns := by
  induction r with
  | nil => intro j hj; exact absurd hj (Nat.not_lt_zero _)
  | cons hl hi _ ih =>
    intro j hj
    cases j with
    | zero => exact ⟨_, _, _, rfl, rfl, hl, hi⟩
    | succ j => simpa using ih (j := j) (by simpa using hj)
theorem RowsAt.keeps {h h' : Heap} {ys : List Value} {rows : List (List Int)} (r : RowsAt h ys rows) (k : h.StaysIn h') : RowsAt h' ys rows := by
  induction r with
  | nil => exact .nil
  | cons hl hi _ ih => exact .cons (hl.at fun o e => k _ _ e) hi ih
theorem RowsIn.at {led : List (Addr × Obj)} {us : List Value} {rows : List (List Int)} {h : Heap} (r : RowsIn led us rows) (k : ∀ p ∈ led, h.get? p.1 = some p.2) : RowsAt h us rows := by
  induction r with
  | nil => exact .nil
  | cons hm hi _ ih => exact .cons ⟨_, k _ hm, rfl, _, rfl⟩ (by simpa using hi) ih
theorem ints_eqAt {A : Around} {s : Shared} {v w : Value} {vs ws : List Value} {ns : List Int} {j : Nat} (hv : IntsAre vs ns) (hw : IntsAre ws ns) (h1 : vs[j]? = some v) (h2 : ws[j]? = some w) : SeqAt.EqAt A s v w true := by
  induction hv generalizing ws j with
  | nil => simp at h1
  | cons n t _ ih =>
    cases hw with
    | cons _ t' hw' =>
      cases j with
      | zero =>
        simp at h1 h2; subst h1 h2
        have := SeqAt.EqAt.int_int (A := A) (s := s) n t n t'
        simpa using this
      | succ j => exact ih hw' (by simpa using h1) (by simpa using h2)
theorem all_tt (n : Nat) : ((List.range n).all fun _ => true) = true := by rw [List.all_eq_true]; intros; rfl
theorem ne_rows {A : Around} {s : Shared} {D W : Addr} {ys us : List Value} {rows : List (List Int)} (hD : s.heap.IsList D ys.toArray) (hW : s.heap.IsList W us.toArray) (r1 : RowsAt s.heap ys rows) (r2 : RowsAt s.heap us rows)
    (hdis : ∀ y ∈ ys, ∀ u ∈ us, y ≠ u) (hu : A.units + 10 < cLine) : SeqAt.RcNeAt A s (.ref D) (.ref W) false := by
  have hlen : ys.length = us.length := r1.length.trans r2.length.symm
  have key := SeqAt.RcNeAt.lists (A := A) (s := s) (e := fun _ => true) hD hW (by simpa using hlen) (by omega) fun j h1 h2 => ?_
  · rw [all_tt] at key; exact key
  · have h1' : j < ys.length := by simpa using h1
    have h2' : j < us.length := by simpa using h2
    obtain ⟨T, its, ns, e1, e2, l1, i1⟩ := r1.get h1'
    obtain ⟨T', its', ns', e1', e2', l2, i2⟩ := r2.get h2'
    obtain rfl : ns = ns' := Option.some.inj (e2.symm.trans e2')
    have g1 : ys.toArray[j] = .ref T := by
      rw [List.getElem?_eq_getElem h1'] at e1
      simpa using Option.some.inj e1
    have g2 : us.toArray[j] = .ref T' := by
      rw [List.getElem?_eq_getElem h2'] at e1'
      simpa using Option.some.inj e1'
    rw [g1, g2]
    have hne : T ≠ T' := fun q => hdis (.ref T) (List.mem_of_getElem? e1) (.ref T') (List.mem_of_getElem? e1') (by rw [q])
    have hsz : its.size = its'.size := by have := i1.length.trans i2.length.symm; simpa using this
    refine SeqAt.EqAt.of_refs hne ?_
    have key := SeqAt.RcAt.lists (A := A.in1) (s := s) (e := fun _ => true) l1 l2 hsz (by show A.units + _ < cLine; omega) fun i k1 k2 => ?_
    · rw [all_tt] at key; exact key
    · exact ints_eqAt i1 i2 (j := i) (by simp [k1]) (by simp [k2])
end Mine

namespace Mine
section
variable {prog : Program} {w : World} {A : Around} {E : Value → Shared → Prop} {s : Shared} {env : Env} {h₀ : Heap} {L : Addr} {m : Str → Option Value} {K : Frag} {mg mb : Str → Option Value} {p : Program} {loose : List Str}
theorem nameG_B {x : Str} {pos : Pos} {v : Value} {Q : Value → Shared → Prop} (F : Fr h₀ L s.heap m) (X : K.In h₀) (T : TopRead p loose mg mb h₀) (e : nsIn K mainGlobals x = some none) (hv : bootBuiltins x = some v) (hn : x ≠ "__name__") (h : Q v s)
    (hg : env.globals = mainGlobals) (hb : ∀ {h : Heap}, h₀.StaysIn h → h.Ns env.builtins mb) (hk : env.scope.kind = .function) (hx : env.kindOf x = some .globalImplicit) (hd : (x == ("__debug__" : Str)) = false) :
    wpAny (model prog w) A (eval (.Name x pos) env) Q E s :=
  Name_function_global hk hx (loadGlobal_builtin (env := env) (by rw [hg]; exact T.g.keeps F.keep) (mg_none_of X T.g e) (hb F.keep) ((T.builtins x hn).trans hv) h) hd
end
theorem items_rows {b : Array UInt8} {acc : Array Value} {n : Nat} (hn : n = b.size) (h : ItemsOf (fun i v => ∃ c u, b[i]? = some c ∧ v = Value.int (c.toNat : Int) u) acc n) : IntsAre acc.toList (b.toList.map fun c => (c.toNat : Int)) := by
  have gen : ∀ (l : List Value) (bs : List UInt8), l.length = bs.length → (∀ (j : Nat) (v : Value), l[j]? = some v → ∃ (c : UInt8) (t : Tok), bs[j]? = some c ∧ v = Value.int (c.toNat : Int) t) → IntsAre l (bs.map fun c => (c.toNat : Int)) := by
    intro l
    induction l with
    | nil => intro bs h _; cases bs with
      | nil => exact .nil
      | cons _ _ => simp at h
    | cons v l ih =>
      intro bs h hk
      cases bs with
      | nil => simp at h
      | cons c bs =>
        obtain ⟨c', t, e, rfl⟩ := hk 0 v rfl
        simp at e; subst e
        exact .cons _ _ (ih bs (by simpa using h) fun j v hv => by simpa using hk (j + 1) v (by simpa using hv))
  refine gen _ _ (by have := h.1; simp; omega) fun j v hv => ?_
  obtain ⟨c, t, e1, e2⟩ := h.2 j v (by simpa using hv)
  exact ⟨c, t, by simpa using e1, e2⟩

theorem paired_rows {h₁ h' : Heap} {vals : List Int} {ps ys : List Value} {vs : List Int} (hF : Paired (LstIs h₁ (fun v its => ∀ u ∈ vals, ∀ t, v = .bytes (Builtin.Struct.intBytes false 4 u) t → IntsAre its.toList (rowOf u)) h') ps ys) (hB : BytesAre ps vs) (hs : ∀ v ∈ vs, v ∈ vals) : RowsAt h' ys (vs.map rowOf) := by
  induction hB generalizing ys with
  | nil => cases hF; exact .nil
  | cons _ ih =>
    cases hF with
    | cons hf ht =>
      obtain ⟨T, its, rfl, _, hl, hG⟩ := hf
      exact .cons hl (hG _ (hs _ (.head _)) _ rfl) (ih ht fun v hv => hs v (.tail _ hv))
abbrev oSc : Scope := { kind := .function, names := [(Str.ofString ".0", .local), (Str.ofString "word", .local), (Str.ofString "list", .globalImplicit)], isGenerator := false, isCoroutine := false, more := [] }

set_option maxHeartbeats 4000000 in
theorem octets_eval {w : World} {me : ExcName → Option Value} {mg mb : Str → Option Value} {A : Around} {s : Shared} {Q E : Value → Shared → Prop}
    {g : Heap} {L P : Addr} {m : Str → Option Value} {ps : List Value} {vals : List Int} {env : Env} {p1 p2 p3 p4 p5 p6 : Pos} (hA : A.handled = none)
    (X : (Mine.hd.heap_39 w.params).In g) (T : TP me mg mb g) (F : Fr g L s.heap m) (hm : m (Str.ofString "words") = some (.ref P)) (hP : s.heap.IsList P ps.toArray) (hB : BytesAre ps vals) (hvb : ∀ v ∈ vals, 0 ≤ v ∧ v < 2 ^ 32) (hl30 : ps.length ≤ 30)
    (hk : env.scope.kind = .function) (hl : env.kindOf (Str.ofString "words") = some .local) (hEL : env.locals = L) (hb : ∀ {h : Heap}, s.heap.StaysIn h → h.Ns env.builtins mb)
    (hclos : closureFor oSc env = pure []) (hg : env.globals = mainGlobals) (hfs : ∀ x, foldedSetIterable (.Name (Str.ofString "words") p5) env x = pure x)
    (e1 : ∀ C, (compEnvC oSc [] C env).kindOf (Str.ofString "word") = some .local) (e2 : ∀ C, (compEnvC oSc [] C env).kindOf (Str.ofString "list") = some .globalImplicit)
    (h : ∀ h' D ys tk, s.heap.StaysIn h' → s.heap.get? D = none → h'.IsList D ys.toArray → RowsAt h' ys (vals.map rowOf) → (∀ y ∈ ys, ∃ T, y = .ref T ∧ s.heap.get? T = none) → Q (.ref D) { s with heap := h', toks := tk }) :
    wpAny (model PySem.Challenge.rw_lh0074_01.row.prog w) A
      (eval (.ListComp (.Call (.Name (Str.ofString "list") p1) [.Name (Str.ofString "word") p2] [] p3) [⟨.Name (Str.ofString "word") p4, .Name (Str.ofString "words") p5, [], 0⟩] oSc p6) env) Q E s := by
  revert X; k_fill; intro X
  have hlt : P < s.heap.objs.size := by obtain ⟨o, ho, _⟩ := hP; exact Heap.lt_size ho
  refine wpAny_ListComp_freeO (cl := []) (fun _ => true) (fun v its => ∀ u ∈ vals, ∀ t, v = .bytes (Builtin.Struct.intBytes false 4 u) t → IntsAre its.toList (rowOf u)) hclos (by decide) rfl (by decide) (by decide) ?_ hfs
  refine wpAny_Name (wpAny_loadName_local hk hl (hEL ▸ F.ns) hm ?_) (by decide)
  refine wpAny_pyIter_list hP ⟨s.heap.objs.size, [s.heap.objs.size, P], [s.heap.objs.size], ps.toArray.size, _, _, rfl, Walks.list hA _ _ (Nat.ne_of_lt hlt) ps.toArray, (by rw [List.size_toArray, sizeLine_eq]; omega), ?_, ⟨⟨_, Heap.get?_push_size _ rfl, rfl, rfl⟩, hP.push _⟩, ?_, ?_, ?_⟩
  · rintro i h ⟨⟨o, ho, _⟩, _⟩ b hb
    rw [List.mem_singleton.mp hb]; exact ⟨o, ho⟩
  · intro b hb
    show b < (s.heap.push _).objs.size
    rw [Heap.size_push]
    rcases List.mem_cons.mp hb with rfl | hb
    · exact Nat.lt_succ_self _
    · rw [List.mem_singleton.mp hb]; exact Nat.lt_succ_of_lt hlt
  · have up : ∀ s₃ : Shared, (∀ b o, b ∉ [s.heap.objs.size] → (s.heap.push { cls := .type "list_iterator", data := .fields #[.ref P, .int 0 0] }).get? b = some o → s₃.heap.get? b = some o) → ∀ b o, s.heap.get? b = some o → s₃.heap.get? b = some o :=
      fun s₃ hk b o e => hk b o (fun hm => Nat.lt_irrefl _ (by have := Heap.lt_size e; rw [List.mem_singleton.mp hm] at this; exact this)) (Heap.get?_push_of_some _ e)
    refine ⟨fun C i v s₃ m₃ E' hC hv hn hm₃ hkp htk => ?_, fun C i v s₃ m₃ E' hC hv _ hn hm₃ hkp htk => ?_⟩
    · exact wpAny_pure ⟨rfl, _, _, rfl, fun _ _ e => e⟩
    · have F₃ : Fr s.heap C s₃.heap m₃ := ⟨hn, up s₃ hkp, Nat.le_trans (by show s.heap.objs.size ≤ (s.heap.push _).objs.size; rw [Heap.size_push]; exact Nat.le_succ _) hC⟩
      have hv' : ps[i]? = some v := by simpa using hv
      obtain ⟨u, t, hue, rfl⟩ := hB.get hv'
      have hu := List.mem_of_getElem? hue
      obtain ⟨u0, u1⟩ := hvb u hu
      refine Call_ ?_
      refine nameG_B F₃ (X.keeps F.keep) (topRead_of (T.keeps F.keep)) (by k_is) PyProof.Rows.Boot.«list» (by decide) ?_ hg hb rfl (e2 C) (by decide)
      refine callWith_type1 (spliced_more (wpAny_Name (wpAny_loadName_local rfl (e1 C) hn hm₃ (spliced_none ?_)) rfl))
      refine call_listB hA (by rw [bytes_size u0 u1, sizeLine_eq]; omega) fun h' tk acc c hst hnone hS hI => ?_
      refine ⟨⟨_, acc, rfl, hnone, ⟨_, hS, rfl, _, rfl⟩, fun u' hu' t' e => ?_⟩, h', tk, rfl, hst⟩
      have hrow := items_rows rfl hI
      have e' : Builtin.Struct.intBytes false 4 u = Builtin.Struct.intBytes false 4 u' := by injection e
      obtain ⟨v0, v1⟩ := hvb u' hu'
      rw [e', bytes_row v0 v1] at hrow
      exact hrow
  · intro D h' tk ys vs hD hlD hpl hlen hP' hF hnd hnD hkp
    have hvs : vs = ps := by
      apply List.ext_getElem?
      intro j
      cases e : vs[j]? with
      | some v => have := hP' j v e; simpa using this.symm
      | none =>
        have : ps.length ≤ j := by have := List.getElem?_eq_none_iff.mp e; rw [hlen] at this; simpa using this
        rw [List.getElem?_eq_none_iff.mpr this]
    subst hvs
    have up : s.heap.StaysIn h' := fun b o e => hkp b o (fun hm => Nat.lt_irrefl _ (by have := Heap.lt_size e; rw [List.mem_singleton.mp hm] at this; exact this)) (Heap.get?_push_of_some _ e)
    have none_of : ∀ {T : Addr} {o : Obj}, (s.heap.push o).get? T = none → s.heap.get? T = none := fun {T o} q => by
      cases r : s.heap.get? T with
      | none => rfl
      | some o' => rw [Heap.get?_push_of_some _ r] at q; cases q
    rw [show vs.filter (fun _ => true) = vs from List.filter_eq_self.mpr fun _ _ => rfl] at hF
    refine h h' D ys.toList tk up (none_of hD) (by simpa using hlD) (paired_rows hF hB fun v hv => hv) fun y hy => ?_
    obtain ⟨_, T, _, e, hT, _⟩ := Paired.right hF y hy
    exact ⟨T, e, none_of hT⟩
end Mine

namespace Mine
local macro_rules | `(tactic| walk_at "pyIter ref") => `(tactic| refine Stop.mk ?_)
local macro_rules | `(tactic| walk_at "exec For Name Subscript cons nil") => `(tactic| refine Stop.mk ?_)
local macro_rules | `(tactic| walk_at "exec For Name Name cons nil") => `(tactic| refine Stop.mk ?_)
theorem rep_len (ns : List Int) (k : Nat) (y : Int) : (ns ++ (List.replicate k [y]).flatten).length = ns.length + k := by simp
theorem rep_ok {ns : List Int} {k : Nat} {y : Int} (h : ∀ x ∈ ns, 0 ≤ x ∧ x ≤ 2 ^ 28) (h0 : 0 ≤ y) (h1 : y ≤ 2 ^ 28) : ∀ x ∈ ns ++ (List.replicate k [y]).flatten, 0 ≤ x ∧ x ≤ 2 ^ 28 := by
  intro x hx
  rcases List.mem_append.mp hx with hx | hx
  · exact h x hx
  · simp at hx
    obtain ⟨_, rfl⟩ := hx
    exact ⟨h0, h1⟩
theorem snoc_ok {ns : List Int} {y : Int} (h : ∀ x ∈ ns, 0 ≤ x ∧ x ≤ 2 ^ 28) (h0 : 0 ≤ y) (h1 : y ≤ 2 ^ 28) : ∀ x ∈ ns ++ [y], 0 ≤ x ∧ x ≤ 2 ^ 28 := by
  intro x hx
  rcases List.mem_append.mp hx with hx | hx
  · exact h x hx
  · rw [List.mem_singleton.mp hx]; exact ⟨h0, h1⟩
theorem pow_ok {e : Int} (h0 : 0 ≤ e) (h1 : e ≤ 28) : 1 ≤ (2 : Int) ^ e.toNat ∧ (2 : Int) ^ e.toNat ≤ 2 ^ 28 := by
  obtain ⟨n, rfl⟩ := Int.eq_ofNat_of_zero_le h0
  have : ∀ n : Nat, n < 29 → 1 ≤ (2 : Int) ^ ((n : Int)).toNat ∧ (2 : Int) ^ ((n : Int)).toNat ≤ 2 ^ 28 := by decide +kernel
  exact this n (by omega)
theorem ints_snoc {vs : List Value} {ns : List Int} (h : IntsAre vs ns) (y : Int) (t : Tok) : IntsAre (vs ++ [.int y t]) (ns ++ [y]) := h.append (.cons _ _ .nil)

theorem perm3 {α : Type} {a b c p : α} (h : p ∈ [b, c] ++ [a]) : p ∈ [a, b, c] := by
  simp only [List.mem_append, List.mem_cons, List.not_mem_nil, or_false] at h ⊢; grind

theorem good_true {c : ClaimW} {cl : Str → Option Addr} {mean : ExcName → Option Value} {args : List WData} {s₁ : Shared} {L : Addr} {m : Str → Option Value} {h' : Heap} {tk : Nat} {G : Array GenState}
    (F : Fr s₁.heap L h' m) (hg : AllBare G) (hn : ∀ cls, c.raises args cls = false) (hp : c.post args (.bool true) args = true) :
    GoodWG c cl mean args s₁ (.ok (.ret (.bool true))) { s₁ with heap := h', toks := tk, gens := G } :=
  ⟨.inl ⟨.bool true, .bool true, [], rfl, hn, .bool true, hp, unshared_nil⟩, .of_keep F.keep, rfl, hg⟩

theorem perm5 {α : Type} {a b c d e p : α} {l : List α} (h : p ∈ a :: b :: c :: d :: e :: l) : p ∈ a :: b :: c :: (l ++ [d, e]) := by
  simp only [List.mem_append, List.mem_cons, List.not_mem_nil, or_false] at h ⊢; grind
theorem perm4 {α : Type} {a b c d p : α} (h : p ∈ [c, d] ++ [a, b]) : p ∈ [a, b, c, d] := by
  simp only [List.mem_append, List.mem_cons, List.not_mem_nil, or_false] at h ⊢; grind
theorem allLt_mem {d : Nat} : ∀ {l : List (Addr × Obj)}, AllLt d l → ∀ p ∈ l, p.1 < d
  | [], _, p, hp => absurd hp List.not_mem_nil
  | q :: l, h, p, hp => by
    rcases List.mem_cons.mp hp with rfl | hp
    · exact h.1
    · exact allLt_mem h.2 p hp

theorem new_off {h₀ h h' : Heap} {L E : Addr} {m : Str → Option Value} {o : Obj} (F : Fr h₀ L h m) (hE : h.objs.size ≤ E) (e : h'.get? E = some o) : h'.get? E = some o ∧ E ≠ L ∧ h₀.get? E = none := by
  refine ⟨e, fun q => absurd (q ▸ F.ns.lt) (Nat.not_lt.mpr hE), ?_⟩
  cases q : h₀.get? E with
  | none => rfl
  | some o' => exact absurd (Heap.lt_size (F.keep _ _ q)) (Nat.not_lt.mpr hE)
theorem new_ne {h₀ h : Heap} {L E : Addr} {news : List (Addr × Obj)} (N : News h₀ L h news) (hE : h.objs.size ≤ E) (p : Addr × Obj) (hp : p ∈ news) : E ≠ p.1 :=
  Nat.ne_of_gt (Nat.lt_of_lt_of_le (Heap.lt_size (N p hp).1) hE)
theorem post_true (args : List WData) : PySem.Challenge.rw_lh0074_01.row.claim.post args (.bool true) args = true := by
  simp [RowW.claim]
  first | exact ⟨rfl, rfl⟩ | (constructor <;> first | rfl | kernel_rfl | decide)

structure GoOn : Prop where
  go : True
local macro_rules | `(tactic| walk_at "exec If") => `(tactic| ((fail_if_success have goOn : GoOn := by assumption); refine Stop.mk ?_))
local macro_rules | `(tactic| walk_at "eval ListComp") => `(tactic| refine Stop.mk ?_)
local macro_rules | `(tactic| walk_at "call type:list") => `(tactic| refine Stop.mk ?_)
structure GoOn2 : Prop where
  go : True
local macro_rules | `(tactic| walk_at "compareOp NotEq ref") => `(tactic| ((fail_if_success have goOn : GoOn2 := by assumption); refine Stop.mk ?_))
theorem rows_fresh {h : Heap} {us : List Value} {rows : List (List Int)} (r : RowsAt h us rows) : ∀ u ∈ us, ∃ T o, u = .ref T ∧ h.get? T = some o := by
  induction r with
  | nil => intro u hu; exact absurd hu List.not_mem_nil
  | cons hl _ _ ih =>
    intro u hu
    rcases List.mem_cons.mp hu with rfl | hu
    · obtain ⟨o, ho, _⟩ := hl; exact ⟨_, o, rfl, ho⟩
    · exact ih u hu
local macro_rules | `(tactic| walk_at "call ref") => `(tactic| ((with_reducible first | show wpAny _ _ (call (Value.ref 200) _) _ _ _ | show wpAny _ _ (call (Value.ref 207) _) _ _ _ | show wpAny _ _ (call (Value.ref 214) _) _ _ _ | show wpAny _ _ (call (Value.ref 59) _) _ _ _ | show wpAny _ _ (call (Value.ref 66) _) _ _ _); refine Stop.mk ?_))

set_option maxHeartbeats 8000000 in
theorem law_holds : PySem.Challenge.rw_lh0074_01.Holds := Mine.hd (by
  k_fill
  intro w s₀ s₁ mg mb G Y fa o pm cd doc dV kV ho hd hcd hD hmg hg args vals as hpre hlay hrd hwl hlo
  have KX := kIn_of Y
  have X := (Ground.X G).1
  have V := (Ground.X G).2
  refine Ground.open G ?_
  intro T B D TE TW
  try (refine guard_noD D (by decide +kernel) ?_; clear D)
  obtain ⟨_, _, M⟩ := bmod_of_top T
  have TA := at_of_top T
  try (obtain ⟨_, _, he, B0⟩ := based_of_top T rfl hmg ho hd; have he' : cd = _ := he; subst he'; clear he)
  clear hmg
  wrow_args hpre hlay hrd hwl hlo
  all_goals (
    first | refine callC_kw (enter_call ?_) | refine enter_call ?_ | refine callC_kw (enter_callW ?_) | refine enter_callW ?_
    w_top on
    have K0 := below_caller (Top.heap T)
    w_call any ho hd hcd hD T F
    clear hd TA
    k_drop
    skip)
  (all_goals try k_fold)
  k_steps
  refine Stop.go (wpAny_For ?_ (fun _ => rfl))
  k_steps
  rename_i D ws _ F0 N0 hI0 _ _ _

  clear hcd hD
  refine Stop.go (for_listN (fun i m nx => ∃ A as ns k, nx = [(A, PySem.W.listOf as.toArray k)] ∧ IntsAre as ns ∧ (∀ x ∈ ns, 0 ≤ x ∧ x ≤ 2 ^ 28) ∧ ns.length ≤ 14 * i ∧ m (Str.ofString "numbers") = some (.ref A)) rfl rfl rfl rfl ⟨_, rfl⟩ F0 N0 ?_ ⟨_, [], [], 0, rfl, .nil, fun x hx => absurd hx List.not_mem_nil, Nat.zero_le _, rfl⟩ ?_ ?_)
  · intro p hp
    rw [List.mem_singleton.mp hp]
    rename (_ < D) => lD
    exact Nat.ne_of_lt lD
  · rintro E' i v m₁ nx h₅ tk₅ G₅ It ob hi hv ⟨A, as, ns, k, rfl, hI, hx, hnl, mA⟩ hG F₅ N₅ hnI hDI
    clear F0 N0
    obtain ⟨x, tx, rfl⟩ : ∃ x tx, v = .int x tx := by
      obtain ⟨t, ht⟩ := ints_get? hI0 (i := i) (by rw [← hI0.length]; exact hi)
      rw [ht] at hv; cases hv; exact ⟨_, _, rfl⟩
    replace F₅ := fr_know F₅ (Str.ofString "numbers") _ mA
    replace N₅ : News s₁.heap s₁.heap.objs.size h₅ [(A, PySem.W.listOf as.toArray k), (It, ob), (D, PySem.W.listOf ws.toArray 0)] := fun p hp => N₅ p (by simp only [List.mem_cons, List.mem_append, List.not_mem_nil, or_false] at hp ⊢; grind)
    k_steps
    have goOn : GoOn := ⟨trivial⟩
    obtain ⟨q, hq⟩ : ∃ q, (if x < 0 then -x else x).fdiv 8 = q := ⟨_, rfl⟩
    obtain ⟨r, hr⟩ : ∃ r, (if x < 0 then -x else x).fmod 8 = r := ⟨_, rfl⟩
    have hq0 : 0 ≤ q := by rw [← hq, Int.fdiv_eq_ediv_of_nonneg _ (by decide)]; split <;> omega
    have hr0 : 0 ≤ r ∧ r < 8 := by rw [← hr, Int.fmod_eq_emod_of_nonneg _ (by decide)]; omega
    rename Fr _ _ _ _ => F6
    rename News _ _ _ _ => N6
    rw [hq, hr] at F6
    clear hq hr
    have hi8 : i < 8 := by
      have := hI0.length
      rw [List.length_take] at this; omega
    have hnl' : ns.length ≤ 112 := by omega
    have e29 : 0 ≤ q.fmod 29 ∧ q.fmod 29 ≤ 28 := by rw [Int.fmod_eq_emod_of_nonneg _ (by decide)]; omega
    obtain ⟨e0, e1⟩ := e29
    have e2 := pow_bits e0 e1
    obtain ⟨e3, e4⟩ := pow_ok e0 e1
    have hAI := neN (hnI _ (.head _)).1
    have hAD := neN (hnI _ (.head _)).2
    dsimp only at hAI hAD
    replace N6 : News s₁.heap s₁.heap.objs.size _ [(A, PySem.W.listOf as.toArray k), (It, ob), (D, PySem.W.listOf ws.toArray 0)] := fun p hp => N6 p (.tail _ hp)
    have has : as.length ≤ 112 := by rw [hI.length]; exact hnl'
    have q1 : 0 ≤ q.fmod 268435456 ∧ q.fmod 268435456 ≤ 2 ^ 28 := by rw [Int.fmod_eq_emod_of_nonneg _ (by decide)]; omega
    have q2 : 0 ≤ q.fmod 16 ∧ q.fmod 16 ≤ 2 ^ 28 := by rw [Int.fmod_eq_emod_of_nonneg _ (by decide)]; omega
    have q3 : 0 ≤ q.fmod 4 ∧ q.fmod 4 ≤ 2 ^ 28 := by rw [Int.fmod_eq_emod_of_nonneg _ (by decide)]; omega
    have hc : r = 0 ∨ r = 1 ∨ r = 2 ∨ r = 3 ∨ r = 4 ∨ r = 5 ∨ r = 6 ∨ r = 7 := by omega
    refine Stop.go ?_
    rcases hc with rfl | rfl | rfl | rfl | rfl | rfl | rfl | rfl
    all_goals k_steps
    iterate 4
      · rename News _ _ _ _ => N₂
        rename Fr _ _ _ _ => F₂
        rename IntsAre _ (_ ++ _) => hI₂
        rename (_ < _ ∧ _ < _ ∧ _ < _ ∧ _ < _ ∧ _ < _) => lD₂
        obtain ⟨_, _, _, lI₂, lD₂⟩ := lD₂
        refine ⟨rfl, _, _, G₅, _, [(_, PySem.W.listOf (List.toArray _) 0)], rfl, id, F₂, ?_, ?_, _, _, _, 0, rfl, hI₂, rep_ok hx (by omega) (by omega), by rw [rep_len]; omega, rfl⟩
        · exact fun p hp => N₂ p (by simp only [List.mem_cons, List.mem_append, List.not_mem_nil, or_false] at hp ⊢; grind)
        intro p hp
        rw [List.mem_singleton.mp hp]
        exact ⟨Nat.ne_of_gt lI₂, Nat.ne_of_gt lD₂⟩
    all_goals
      show wpAny _ _ (call (Value.builtin "list.append") [Value.ref A, Value.int _ _]) _ _ _
      refine' append_K ?k1 ?k2 ?k3 ?_ ?z
      case k1 => k_asm
      case k2 => exact N6
      case k3 => k_upd
      case z => size_fits
      intro h₉ F₉ N₉
      have f4 : (Int.fmod 4 2) = 0 := by decide
      have f5 : (Int.fmod 5 2) = 1 := by decide
      have f6 : (Int.fmod 6 2) = 0 := by decide
      have f7 : (Int.fmod 7 2) = 1 := by decide
      k_steps
      rw [List.push_toArray] at N₉
      refine ⟨rfl, _, _, G₅, _, [(A, PySem.W.listOf (as ++ [_]).toArray (k + 1))], rfl, id, F₉, fun p hp => N₉ p (perm3 hp), ?_, _, _, _, k + 1, rfl, ints_snoc hI _ _, snoc_ok hx ?_ ?_, ?_, rfl⟩
      rotate_left
      · omega
      · omega
      · rw [List.length_append, List.length_singleton]; omega
      intro p hp
      rw [List.mem_singleton.mp hp]
      exact ⟨hAI, hAD⟩
  · rintro m₁ nx h₅ tk₅ G₅ ⟨A, as, ns, k, rfl, hI, hx, hnl, mA⟩ hG F₅ N₅ hna
    have goOn : GoOn := ⟨trivial⟩
    clear F0 N0
    have hws : ws.length ≤ 8 := by rw [hI0.length, List.length_take]; omega
    have hns : ns.length ≤ 112 := by omega
    clear hI0
    replace F₅ := fr_know F₅ (Str.ofString "numbers") _ mA
    replace N₅ : News s₁.heap s₁.heap.objs.size h₅ [(A, PySem.W.listOf as.toArray k)] := fun p hp => N₅ p (.tail _ hp)
    dsimp only
    k_steps
    rename IntsAre _ (List.take 30 _) => hIx
    rename News _ _ _ _ => N6
    rename Fr _ _ _ _ => F6
    rename_i B bs₀ _ _ _ _ _ lB₀ _
    obtain ⟨xs, hxs⟩ : ∃ xs, xs = List.take 30 ns := ⟨_, rfl⟩
    rw [← hxs] at hIx
    have hxl : xs.length ≤ 30 := by rw [hxs, List.length_take]; omega
    have hxb : ∀ x ∈ xs, 0 ≤ x ∧ x ≤ 2 ^ 28 := fun x hx' => hx x (by rw [hxs] at hx'; exact List.mem_of_mem_take hx')
    have hkk := hide_stays (fun b o e => F6.keep b o e) (N6 _ (.head _)).2.2
    refine Stop.go (wpAny_amb (d := 390) (u := 390) rfl (by exact (by decide +kernel : 1 + claimMargin + 1 ≤ 390)) (by exact (by decide +kernel : 4 + 3 ≤ 390)) ?_)
    refine words_spec (KX.keeps hkk) (T.keeps hkk) (N6 _ (.head _)).1 hIx hxb hxl ?_ ?_
    · intro hnone h₇ tk₇ hst₇
      have F7 := F6.keeps hst₇
      have N7 : News s₁.heap s₁.heap.objs.size h₇ [_, _] := fun p hp => ⟨hst₇ _ _ (N6 p hp).1, (N6 p hp).2⟩
      clear F6 N6
      k_steps
      rename_i c dx _ lD lc _ F8 N8
      have nB := (N8 _ (.tail _ (.tail _ (.head _))))
      have nc := (N8 _ (.head _))
      have nd := (N8 _ (.tail _ (.head _)))
      have hk3 := hide_stays (hide_stays (hide_stays (fun b o e => F8.keep b o e) nB.2.2) nc.2.2) nd.2.2
      have F8' := fr_hide (fr_hide (fr_hide F8 nB.2.1.symm nB.2.2) nc.2.1.symm nc.2.2) nd.2.1.symm nd.2.2
      refine Stop.go (wpAny_amb (d := 380) (u := 380) rfl (by exact (by decide +kernel : 1 + claimMargin + 1 ≤ 380)) (by exact (by decide +kernel : 4 + 3 ≤ 380)) ?_)
      refine packed_spec (KX.keeps hk3) (T.keeps hk3) nB.1 nc.1 nd.1 ⟨Nat.ne_of_lt (Nat.lt_trans lD.1 lc), Nat.ne_of_lt lD.1, Nat.ne_of_gt lc⟩ hIx hxb hxl (fun _ => ?_) (fun vals hvals => absurd (hnone.symm.trans hvals) (by simp))
      refine ⟨_, _, below_amb (Below.push K0 F8' ?_), fun e h₉ tk₉ t R U => ?_⟩
      · rfl
      · k_steps
        rename Fr _ _ _ _ => F10
        exact good_true F10 (hG (by rw [hg]; exact AllBare.empty)) (fun _ => rfl) (post_true _)
    · intro vals hvals h₇ tk₇ W led us kw hst₇ M₇ R₇
      have N7 := news_made F6 N6 hst₇ M₇
      have F7 := F6.keeps hst₇
      clear F6 N6
      simp only [List.cons_append] at N7
      k_steps
      rename_i c dx _ lD lc _ F8 N8
      obtain ⟨lW, lAll⟩ := lD
      replace N8 : News s₁.heap s₁.heap.objs.size _ (_ :: _ :: _ :: _ :: _ :: led) := fun p hp => N8 p (perm5 hp)
      have nB := (N8 _ (.tail _ (.tail _ (.tail _ (.head _)))))
      have nc := (N8 _ (.head _))
      have nd := (N8 _ (.tail _ (.head _)))
      have hk3 := hide_stays (hide_stays (hide_stays (fun b o e => F8.keep b o e) nB.2.2) nc.2.2) nd.2.2
      have lBd := allLt_mem lAll _ (List.mem_append_right _ (.head _))
      refine Stop.go (wpAny_amb (d := 380) (u := 380) rfl (by exact (by decide +kernel : 1 + claimMargin + 1 ≤ 380)) (by exact (by decide +kernel : 4 + 3 ≤ 380)) ?_)
      refine packed_spec (KX.keeps hk3) (T.keeps hk3) nB.1 nc.1 nd.1 ⟨Nat.ne_of_lt (Nat.lt_trans lBd lc), Nat.ne_of_lt lBd, Nat.ne_of_gt lc⟩ hIx hxb hxl (fun hnone => absurd (hnone.symm.trans hvals) (by simp)) (fun vals' hvals' h₉ tk₉ P ps kp hst₉ M₉ hB => ?_)
      obtain rfl : vals = vals' := Option.some.inj (hvals.symm.trans hvals')
      have N9 := news_made F8 N8 hst₉ M₉
      have F9 := F8.keeps hst₉
      have hpl := hB.length
      have nPc : P ≠ c := made_off N8 M₉ _ (.head _) _ (.head _)
      have nPd : P ≠ dx := made_off N8 M₉ _ (.head _) _ (.tail _ (.head _))
      clear F8 N8
      simp only [List.cons_append, List.nil_append] at N9
      k_steps
      rename News _ _ _ _ => N10
      rename Fr _ _ _ _ => F10
      have hvf := vals_form hvals fun x hx' => (hxb x hx').1
      have hvb : ∀ v ∈ vals, 0 ≤ v ∧ v < 2 ^ 32 := fun v hv => by obtain ⟨i, lo, i16, rfl, l0, l1⟩ := hvf v hv; omega
      have hpl30 : ps.length ≤ 30 := by rw [hpl]; exact Nat.le_trans (vals_len hvals) hxl
      refine Stop.go (octets_eval (g := s₁.heap) rfl KX T F10 rfl (News.isList N10 (.head _)) hB hvb hpl30 rfl rfl rfl (fun k => (topRead_of T).b.keeps fun b o e => k _ _ (F10.keep _ _ e)) rfl rfl (fun _ => rfl) (fun _ => rfl) (fun _ => rfl) fun h₁₁ Dd yy tk₁₁ hst₁₁ hDn hDl hrows hyy => ?_)
      have r10 := RowsIn.at R₇ fun p hp => (N10 p (by simp only [List.mem_cons]; grind)).1
      have r11 := r10.keeps hst₁₁
      have F11 := F10.keeps hst₁₁
      have N11 : News s₁.heap s₁.heap.objs.size h₁₁ _ := fun p hp => ⟨hst₁₁ _ _ (N10 p hp).1, (N10 p hp).2⟩
      have hdis : ∀ y ∈ yy, ∀ u ∈ us, y ≠ u := fun y hy u hu e => by
        obtain ⟨T1, rfl, h1⟩ := hyy y hy
        obtain ⟨T2, o, rfl, h2⟩ := rows_fresh r10 u hu
        cases e
        exact absurd (h1.symm.trans h2) (by simp)
      clear N10 F10
      k_steps
      refine Stop.go (ne_rows hDl (News.isList N11 (by k_mem)) hrows r11 hdis (by exact (by decide +kernel : 4 + 3 + 10 < cLine)) _ _ _ _ ?_)
      have goOn2 : GoOn2 := ⟨trivial⟩
      k_steps
      rename News _ _ _ _ => N12
      rename Fr _ _ _ _ => F12
      have mc := N12 (c, instObj 179 dx) (by k_mem)
      have md := N12 (dx, PySem.W.dictOf [] 0) (by k_mem)
      have hk12 := hide_stays (hide_stays (fun b o e => F12.keep b o e) mc.2.2) md.2.2
      have hP12 := (N12 (P, PySem.W.listOf ps.toArray kp) (by k_mem)).1
      have hncd : c ≠ dx := Nat.ne_of_gt lc
      refine Stop.go (wpAny_amb (d := 370) (u := 360) rfl (by exact (by decide +kernel : 1 + claimMargin + 1 ≤ 370)) (by exact (by decide +kernel : 4 + 3 ≤ 360)) ?_)
      refine unpacked_spec (KX.keeps hk12) (T.keeps hk12) ⟨_, (Heap.hide_ne _ nPd).trans ((Heap.hide_ne _ nPc).trans hP12), rfl, _, rfl⟩ mc.1 md.1 hncd hB hvf hxl fun h₁₃ tk₁₃ G₁₃ B₁₃ bs k₁₃ hG₁₃ hst₁₃ M₁₃ hI₁₃ => ?_
      have hback : unpk xs.length vals = xs := by
        have := unpk_val (wanted := xs.length) (acc := []) hvals (Nat.lt_succ_of_le hxl) (fun x hx' => (hxb x hx').1) (Nat.zero_le _) (by simp)
        simpa [unpk] using this
      rw [hback] at hI₁₃
      have N13 := news_made F12 N12 hst₁₃ M₁₃
      have n13B : B₁₃ ≠ B := made_off N12 M₁₃ _ (.head _) (B, PySem.W.listOf bs₀.toArray 0) (by k_mem)
      have F13 := F12.keeps hst₁₃
      clear F12 N12
      simp only [List.cons_append, List.nil_append] at N13
      k_steps
      rename News _ _ _ _ => N14
      rename Fr _ _ _ _ => F14
      have mc14 := N14 (c, instObj 179 dx) (by k_mem)
      have md14 := N14 (dx, PySem.W.dictOf [] 0) (by k_mem)
      have hk14 := hide_stays (hide_stays (fun b o e => F14.keep b o e) mc14.2.2) md14.2.2
      have hP14 := (N14 (P, PySem.W.listOf ps.toArray kp) (by k_mem)).1
      have hhalf : ((xs.length : Int)).fdiv 2 = ((xs.length / 2 : Nat) : Int) := by
        rw [Int.fdiv_eq_ediv_of_nonneg _ (by decide)]; omega
      rw [hhalf]
      refine Stop.go (wpAny_amb (d := 370) (u := 360) rfl (by exact (by decide +kernel : 1 + claimMargin + 1 ≤ 370)) (by exact (by decide +kernel : 4 + 3 ≤ 360)) ?_)
      refine unpacked_spec (KX.keeps hk14) (T.keeps hk14) ⟨_, (Heap.hide_ne _ nPd).trans ((Heap.hide_ne _ nPc).trans hP14), rfl, _, rfl⟩ mc14.1 md14.1 hncd hB hvf (by omega) fun h₁₅ tk₁₅ G₁₅ B₁₅ cs k₁₅ hG₁₅ hst₁₅ M₁₅ hI₁₅ => ?_
      have hfront : unpk (xs.length / 2) vals = xs.take (xs.length / 2) := by
        have := unpk_val (wanted := xs.length / 2) (acc := []) hvals (Nat.lt_succ_of_le hxl) (fun x hx' => (hxb x hx').1) (Nat.zero_le _) (by simp; omega)
        simpa [unpk] using this
      rw [hfront] at hI₁₅
      have N15 := news_made F14 N14 hst₁₅ M₁₅
      have F15 := F14.keeps hst₁₅
      clear F14 N14
      simp only [List.cons_append, List.nil_append] at N15
      k_steps
      · rename News _ _ _ _ => N16
        rename Fr _ _ _ _ => F16
        refine Stop.go (wpAny_For ?_ (fun _ => rfl))
        k_steps
        rename_i Dh wsh _ _ _ _ _ _ R _ lR _ _
        obtain ⟨_, _, lR13, _, _, _, _, lRB, _⟩ := lR
        have N17 : News s₁.heap s₁.heap.objs.size _ [(B, PySem.W.listOf bs₀.toArray 0), (R, PySem.W.listOf #[] 0), (B₁₃, PySem.W.listOf bs.toArray k₁₃)] := fun p hp => N16 p (by simp only [List.mem_cons, List.not_mem_nil, or_false] at hp ⊢; grind)
        have nRB := neN (Nat.ne_of_gt lRB)
        have nR13 := neN (Nat.ne_of_gt lR13)
        have hbl : bs₀.length = xs.length := hIx.length
        refine Stop.go (for_listN (fun i m nx => ∃ rs k, nx = [(R, PySem.W.listOf rs.toArray k), (B₁₃, PySem.W.listOf bs.toArray k₁₃)] ∧ IntsAre rs ((List.range i).map fun j => sumTo xs (j + 1)) ∧ m (Str.ofString "rising") = some (.ref R) ∧ (∃ t, m (Str.ofString "total") = some (.int (sumTo xs i) t)) ∧ m (Str.ofString "numbers") = some (.ref B) ∧ m (Str.ofString "back") = some (.ref B₁₃)) rfl rfl rfl rfl ⟨_, rfl⟩ F16 N17 ?_ ⟨[], 0, rfl, .nil, rfl, ⟨_, rfl⟩, rfl, rfl⟩ ?_ ?_)
        · intro p hp
          simp only [List.mem_cons, List.not_mem_nil, or_false] at hp
          rcases hp with rfl | rfl
          · exact nRB
          · exact n13B
        · rintro E' i v m₁ nx h₁₇ tk₁₇ G₁₇ It ob hi hv ⟨rs, k, rfl, hIr, mR, ⟨tt, mt⟩, mB, mBk⟩ hG₁₇ F₁₇ N₁₇ hnI hDI
          clear F16 N16 N17
          obtain ⟨tx, hvx⟩ := ints_get? hIx (i := i) (by rw [← hbl]; exact hi)
          rw [hvx] at hv; cases hv
          replace F₁₇ := fr_know (fr_know (fr_know (fr_know F₁₇ (Str.ofString "rising") _ mR) (Str.ofString "total") _ mt) (Str.ofString "numbers") _ mB) (Str.ofString "back") _ mBk
          have hRI := neN (hnI _ (.head _)).1
          dsimp only at hRI
          have hrl : rs.length ≤ 30 := by rw [hIr.length, List.length_map, List.length_range]; omega
          obtain ⟨y, hy⟩ : ∃ y, y = xs.getD i 0 := ⟨_, rfl⟩
          rw [← hy] at F₁₇
          replace N₁₇ : News s₁.heap s₁.heap.objs.size h₁₇ [(R, PySem.W.listOf rs.toArray k), (B₁₃, PySem.W.listOf bs.toArray k₁₃), (It, ob), (B, PySem.W.listOf bs₀.toArray 0)] := fun p hp => N₁₇ p (by simp only [List.mem_cons, List.mem_append, List.not_mem_nil, or_false] at hp ⊢; grind)
          k_steps
          rename News _ _ _ _ => N18
          rename Fr _ _ _ _ => F18
          show wpAny _ _ (call (Value.builtin "list.append") [Value.ref R, Value.int _ _]) _ _ _
          refine' append_K ?k1 ?k2 ?k3 ?_ ?z
          case k1 => k_asm
          case k2 => exact N18
          case k3 => k_upd
          case z => size_fits
          intro h₁₉ F₁₉ N₁₉
          k_steps
          rw [List.push_toArray] at N₁₉
          subst hy
          refine ⟨rfl, _, _, G₁₇, _, [(R, PySem.W.listOf (rs ++ [_]).toArray (k + 1)), (B₁₃, PySem.W.listOf bs.toArray k₁₃)], rfl, id, F₁₉, fun p hp => N₁₉ p (perm4 hp), ?_, _, k + 1, rfl, ?_, rfl, ⟨_, rfl⟩, rfl, rfl⟩
          · intro p hp
            simp only [List.mem_cons, List.not_mem_nil, or_false] at hp
            rcases hp with rfl | rfl
            · exact hnI (R, PySem.W.listOf rs.toArray k) (.head _)
            · exact hnI _ (.tail _ (.head _))
          · rw [List.range_succ, List.map_append]
            exact ints_snoc hIr _ _
        · rintro m₁ nx h₁₇ tk₁₇ G₁₇ ⟨rs, k, rfl, hIr, mR, ⟨tt, mt⟩, mB, mBk⟩ hG₁₇ F₁₇ N₁₇ hna
          clear F16 N16 N17
          rw [hbl] at hIr
          replace F₁₇ := fr_know (fr_know (fr_know (fr_know F₁₇ (Str.ofString "rising") _ mR) (Str.ofString "total") _ mt) (Str.ofString "numbers") _ mB) (Str.ofString "back") _ mBk
          replace N₁₇ : News s₁.heap s₁.heap.objs.size h₁₇ [(R, PySem.W.listOf rs.toArray k), (B₁₃, PySem.W.listOf bs.toArray k₁₃), (B, PySem.W.listOf bs₀.toArray 0)] := fun p hp => N₁₇ p (by simp only [List.mem_cons, List.not_mem_nil, or_false] at hp ⊢; grind)
          dsimp only
          k_steps
          have hst17 : s₁.heap.StaysIn h₁₇ := fun b o e => F₁₇.keep b o e
          have hsl : ((List.range xs.length).map fun j => sumTo xs (j + 1)).length ≤ 100 := by simp; omega
          refine Stop.go (wpAny_amb (d := 390) (u := 390) rfl (by exact (by decide +kernel : 1 + claimMargin + 1 ≤ 390)) (by exact (by decide +kernel : 4 + 3 ≤ 390)) ?_)
          refine enc_call (KX.keeps hst17) (T.keeps hst17) (News.isList N₁₇ (.head _)) hIr hsl fun C h₁₈ tk₁₈ G₁₈ news₁₈ hG₁₈ R₁₈ => ?_
          have hst18 : h₁₇.StaysIn h₁₈ := by
            obtain ⟨_, _, _, _, _, _, F0, _⟩ := R₁₈
            exact fun b o e => F0.keep b o e
          have F₁₈ := F₁₇.keeps hst18
          k_steps
          have nlim := (T.keeps hst17).nolimit
          refine Stop.go (list_ready R₁₈ rfl (by exact (by decide +kernel : 1 + claimMargin + 1 ≤ 395)) (by exact (by decide +kernel : 4 + 3 ≤ 375)) nlim (by rw [sizeLine_eq]; omega) fun h₁₉ tk₁₉ G₁₉ ac₁ cc₁ m₁₉ hG₁₉ Fc₁ Nc₁ hL₁ hIt₁ => ?_)
          obtain ⟨hE, hEe⟩ : ∃ E, E = C + 2 := ⟨_, rfl⟩
          have hCE : h₁₇.objs.size ≤ hE := by rw [hEe]; exact Nat.le_trans Fc₁.above (Nat.le_add_right _ _)
          rw [← hEe] at hL₁ ⊢
          have hst19 : h₁₇.StaysIn h₁₉ := fun b o e => Fc₁.keep b o e
          have F₁₉ := F₁₇.keeps hst19
          have N₁₉ : News s₁.heap s₁.heap.objs.size h₁₉ [(hE, PySem.W.listOf ac₁.toList.toArray cc₁), (R, PySem.W.listOf rs.toArray k), (B₁₃, PySem.W.listOf bs.toArray k₁₃), (B, PySem.W.listOf bs₀.toArray 0)] := fun p hp => by
            rcases List.mem_cons.mp hp with rfl | hp
            · exact new_off F₁₇ hCE (by simpa using hL₁)
            · exact ⟨hst19 _ _ (N₁₇ p hp).1, (N₁₇ p hp).2⟩
          have nER : hE ≠ R := neN (new_ne N₁₇ hCE (R, PySem.W.listOf rs.toArray k) (by k_mem))
          have nE13 : hE ≠ B₁₃ := neN (new_ne N₁₇ hCE (B₁₃, PySem.W.listOf bs.toArray k₁₃) (by k_mem))
          have nEB : hE ≠ B := neN (new_ne N₁₇ hCE (B, PySem.W.listOf bs₀.toArray 0) (by k_mem))
          have hEI := items_ints hIt₁
          have hEx : (List.range ((List.range xs.length).map fun j => sumTo xs (j + 1)).length).map (encAt ((List.range xs.length).map fun j => sumTo xs (j + 1))) = xs := enc_sums xs
          rw [hEx] at hEI
          clear F₁₈ Fc₁ Nc₁ R₁₈ hL₁ hIt₁ N₁₇ F₁₇
          k_steps
          have hst20 : s₁.heap.StaysIn h₁₉ := fun b o e => F₁₉.keep b o e
          have nlim := (T.keeps hst20).nolimit
          refine Stop.go (wpAny_amb (d := 390) (u := 390) rfl (by exact (by decide +kernel : 1 + claimMargin + 1 ≤ 390)) (by exact (by decide +kernel : 4 + 3 ≤ 390)) ?_)
          refine dec_call (KX.keeps hst20) (T.keeps hst20) (News.isList N₁₉ (by k_mem : (B₁₃, PySem.W.listOf bs.toArray k₁₃) ∈ _)) hI₁₃ (by omega) fun C₂ h₂₀ tk₂₀ G₂₀ news₂₀ hG₂₀ R₂₀ => ?_
          have hst21 : h₁₉.StaysIn h₂₀ := by
            obtain ⟨_, _, _, _, _, _, F0, _⟩ := R₂₀
            exact fun b o e => F0.keep b o e
          have F₂₀ := F₁₉.keeps hst21
          k_steps
          refine Stop.go (list_ready R₂₀ rfl (by exact (by decide +kernel : 1 + claimMargin + 1 ≤ 395)) (by exact (by decide +kernel : 4 + 3 ≤ 375)) nlim (by rw [sizeLine_eq]; omega) fun h₂₁ tk₂₁ G₂₁ ac₂ cc₂ m₂₁ hG₂₁ Fc₂ Nc₂ hL₂ hIt₂ => ?_)
          obtain ⟨D₂, hD₂⟩ : ∃ E, E = C₂ + 2 := ⟨_, rfl⟩
          have hCD : h₁₉.objs.size ≤ D₂ := by rw [hD₂]; exact Nat.le_trans Fc₂.above (Nat.le_add_right _ _)
          rw [← hD₂] at hL₂ ⊢
          have hst22 : h₁₉.StaysIn h₂₁ := fun b o e => Fc₂.keep b o e
          have F₂₁ := F₁₉.keeps hst22
          have N₂₁ : News s₁.heap s₁.heap.objs.size h₂₁ [(D₂, PySem.W.listOf ac₂.toList.toArray cc₂), (R, PySem.W.listOf rs.toArray k)] := fun p hp => by
            rcases List.mem_cons.mp hp with rfl | hp
            · exact new_off F₁₉ hCD (by simpa using hL₂)
            · rw [List.mem_singleton] at hp; subst hp
              exact ⟨hst22 _ _ (N₁₉ _ (.tail _ (.head _))).1, (N₁₉ _ (.tail _ (.head _))).2⟩
          have nDR : D₂ ≠ R := neN (new_ne N₁₉ hCD (R, PySem.W.listOf rs.toArray k) (by k_mem))
          have hDI := items_ints hIt₂
          clear F₂₀ Fc₂ Nc₂ R₂₀ hL₂ hIt₂ N₁₉ F₁₉
          k_steps
          exact good_true F₂₁ (hG₂₁ (hG₂₀ (hG₁₉ (hG₁₈ (hG₁₇ (hG₁₅ (hG₁₃ (hG (by rw [hg]; exact AllBare.empty))))))))) (fun _ => rfl) (post_true _)
      · rename (¬ List.take _ xs = List.take _ xs) => hbadhalf
        exact absurd (by rw [hhalf, Int.toNat_natCast]) hbadhalf)
end Mine

theorem PySem.Challenge.cw_lh0074_01_holds : PySem.Challenge.rw_lh0074_01.Holds :=
  Mine.law_holds
