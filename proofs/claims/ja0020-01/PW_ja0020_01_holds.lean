import PyProof.Rows.All
import Wide.All
import OpenK.AllK
import Wide.FinOn
import PySem.Challenge.RW_ja0020_01
open PySem PySem.W PyProof.Rows
set_option Elab.async false
namespace Mine
theorem keep8 {T A : Prop} (hl : T) (h : T → A) : A := h hl
theorem left_both {α β γ : Type} {X : Option α} {f : α → β} {g : α → γ} {a : β} {b : γ} (h1 : X.map f = some a) (h2 : X.map g = some b) : X.map (fun s => (f s, g s)) = some (a, b) := by
  cases X with
  | none => cases h1
  | some x => cases h1; cases h2; rfl
local macro_rules | `(tactic| k_head) => do
  let (m, hl) := (Lean.mkIdent `mark8, Lean.mkIdent `hl)
  `(tactic| ((fail_if_success (have := $m)); refine' keep8 ?$hl fun $m => ?main8; (case' main8 => k_head); (case $hl:ident => exact fun w => left_both (by kernel_rfl) (by kernel_rfl))))
set_option maxRecDepth 1000000 in
set_option maxHeartbeats 8000000 in
open_top hd for PySem.Challenge.rw_ja0020_01
end Mine
set_option maxRecDepth 100000
namespace Mine
section
variable {prog : Program} {w : World} {A : Around} {E : Value → Shared → Prop} {s : Shared}

theorem wpAny_choose {M : Model} {src : Source} {n : Nat} {Q : Nat → Shared → Prop} (hn : n ≠ 0) (h : ∀ k d', k < n → Q k { s with drawn := d' }) : wpAny M A (choose src n) Q E s :=
  fun _ _ _ => ⟨hn, h _ _ (Nat.mod_lt _ (Nat.pos_of_ne_zero hn))⟩

theorem eraseIdx_perm {α : Type} : ∀ (l : List α) (i : Nat) (h : i < l.length), (l[i] :: l.eraseIdx i).Perm l
  | x :: r, 0, _ => List.Perm.refl _
  | x :: r, i + 1, h => by
    have h' : i < r.length := by simpa using h
    simp only [List.getElem_cons_succ, List.eraseIdx_cons_succ]
    exact (List.Perm.swap x r[i] _).trans (List.Perm.cons x (eraseIdx_perm r i h'))

theorem pickGo_perm {α : Type} (next : Nat → Nat) : ∀ (fuel k : Nat) (left : List α) (out : Array α), left.length ≤ fuel → (pickOrder.go next fuel k left out).toList.Perm (out.toList ++ left)
  | 0, _, left, out, h => by
    have : left = [] := List.length_eq_zero_iff.mp (Nat.le_zero.mp h)
    subst this
    unfold pickOrder.go; simp
  | fuel + 1, k, [], out, _ => by unfold pickOrder.go; simp
  | fuel + 1, k, x :: r, out, h => by
    unfold pickOrder.go
    have hlt : next k % (x :: r).length < (x :: r).length := Nat.mod_lt _ (by simp)
    rw [List.getElem?_eq_getElem hlt]
    dsimp only
    refine (pickGo_perm next fuel (k + 1) _ _ (by rw [List.length_eraseIdx]; simp at h hlt ⊢; split <;> omega)).trans ?_
    rw [Array.toList_push, List.append_assoc]
    exact List.Perm.append_left _ (eraseIdx_perm _ _ hlt)
theorem pickOrder_perm {α : Type} (next : Nat → Nat) (xs : Array α) : (pickOrder next xs).toList.Perm xs.toList := by
  unfold pickOrder
  simpa using pickGo_perm next xs.size 0 xs.toList #[] (by simp)

theorem wpAny_setsByText {Q : Bool → Shared → Prop} (h : ∀ b, Q b s) : wpAny (model prog w) A setsByText Q E s := by
  unfold setsByText
  exact wpAny_bind (wpAny_askSetting (wpAny_pure (h _)))

theorem wpAny_setWalk {a : Addr} {o : Obj} {es : Array (Int × Value)} {ep : Nat} {t : SetTable} {Q : Array (Int × Value) → Shared → Prop}
    (ho : s.heap.get? a = some o) (hd : o.data = .set es ep t) (hf : t.fits es.size = true) (hl : (w.params.followText "set-order" || (t.led && t.plain) || decide (es.size ≤ 1)) = true)
    (h : ∀ l : Array (Int × Value), l.toList.Perm es.toList → Q l s) : wpAny (model prog w) A (setWalk a) Q E s := by
  unfold setWalk
  refine wpAny_bind (wpAny_setState_of ho hd hf ?_)
  dsimp only
  unfold setsByText
  refine wpAny_bind (wpAny_bind (wpAny_askSetting (wpAny_pure ?_)))
  show wpAny _ _ (if w.params.followText "set-order" = true then _ else _) _ _ _
  cases hb : w.params.followText "set-order" with
  | true =>
    simp only [if_true]
    exact wpAny_bind (wpAny_askSetting (wpAny_pure (h _ (pickOrder_perm _ _))))
  | false =>
    rw [hb] at hl
    simp only [Bool.false_eq_true, if_false]
    have hdr : (!t.plain && decide (es.size > 1)) = false := by
      cases hp : t.plain
      · simp [hp] at hl; simp; omega
      · simp
    have hml : (!t.led && decide (es.size > 1)) = false := by
      cases hp : t.led
      · simp [hp] at hl; simp; omega
      · simp
    show wpAny _ _ (if (!t.plain && decide (es.size > 1)) = true then _ else _) _ _ _
    rw [hdr]
    simp only [Bool.false_eq_true, if_false]
    show wpAny _ _ ((if (!t.led && decide (es.size > 1)) = true then _ else _) >>= _) _ _ _
    rw [hml]
    simp only [Bool.false_eq_true, if_false]
    exact wpAny_bind (wpAny_pure (wpAny_pure (h _ (List.Perm.refl _))))
theorem wpAny_setsQuiet {l : List Addr} {Q : Bool → Shared → Prop}
    (hl : ∀ a ∈ l, ∃ S n, s.heap.SetOf (intKind prog w) a S n) (h : Q true s) : wpAny (model prog w) A (setsQuiet l) Q E s := by
  unfold setsQuiet
  refine wpAny_bind (wpAny_forIn_list _ (fun rest b s' => s' = s ∧ b.1 = none ∧ ∀ a ∈ rest, ∃ S n, s.heap.SetOf (intKind prog w) a S n) _ (fun a rest b s' hI => ?_) (fun b s' hI => ?_) _ _ ⟨rfl, rfl, hl⟩)
  · obtain ⟨rfl, hb, hr⟩ := hI
    obtain ⟨S, n, o, es, ep, t, ho, hex, hd, hel, hmem, hbd, hf, hn⟩ := hr a (.head _)
    refine wpAny_bind (wpAny_setEntries_of ho hd hf ?_)
    refine wpAny_bind (wpAny_forIn_array' _ (fun rest b s'' => s'' = s' ∧ b.1 = none ∧ ElemsOf (intKind prog w) rest) _ (fun x rest b s'' hI => ?_) (fun b s'' hI => ?_) _ _ ⟨rfl, rfl, hel⟩)
    · obtain ⟨rfl, hb', hel'⟩ := hI
      obtain ⟨hx, vx⟩ := x
      obtain ⟨⟨k, hk, _⟩, _⟩ := hel'.head
      obtain ⟨tk, rfl⟩ := Value.isInt_shape hk
      dsimp only
      exact wpAny_pure ⟨rfl, rfl, hel'.tail⟩
    · obtain ⟨rfl, hb', _⟩ := hI
      obtain ⟨b1, b2⟩ := b
      simp only at hb'
      subst hb'
      exact wpAny_pure ⟨rfl, rfl, fun a' ha' => hr a' (.tail _ ha')⟩
  · obtain ⟨rfl, hb, _⟩ := hI
    obtain ⟨b1, b2⟩ := b
    simp only at hb
    subst hb
    exact wpAny_pure h

theorem wpAny_setWalkUnseen {a r : Addr} {others : List Addr} {o : Obj} {es : Array (Int × Value)} {ep : Nat} {t : SetTable} {S R : Int → Bool} {n k : Nat} {Q : Array (Int × Value) → Shared → Prop}
    (ho : s.heap.get? a = some o) (hd : o.data = .set es ep t) (hf : t.fits es.size = true) (hS : s.heap.SetOf (intKind prog w) a S n) (hR : s.heap.SetOf (intKind prog w) r R k) (hot : ∀ b ∈ others, ∃ S n, s.heap.SetOf (intKind prog w) b S n)
    (h : ∀ (l : Array (Int × Value)) h', l.toList.Perm es.toList → Heap.SameBut r s.heap h' → h'.SetOf (intKind prog w) r R k → Q l { s with heap := h' }) :
    wpAny (model prog w) A (setWalkUnseen a others (some r)) Q E s := by
  have same : ∀ l : Array (Int × Value), l.toList.Perm es.toList → Q l s := fun l hp => by
    have := h l s.heap hp (Heap.SameBut.refl _ _) hR
    cases s; exact this
  unfold setWalkUnseen
  refine wpAny_bind (wpAny_setState_of ho hd hf ?_)
  dsimp only
  unfold setsByText
  refine wpAny_bind (wpAny_bind (wpAny_askSetting (wpAny_pure ?_)))
  show wpAny _ _ (if (w.params.followText "set-order" || (t.led && t.plain) || decide (es.size ≤ 1)) = true then _ else _) _ _ _
  cases hc : (w.params.followText "set-order" || (t.led && t.plain) || decide (es.size ≤ 1)) with
  | true =>
    simp only [if_true]
    exact wpAny_setWalk ho hd hf hc fun l hp => same l hp
  | false =>
    simp only [Bool.false_eq_true, if_false]
    refine wpAny_bind (wpAny_setsQuiet (fun b hb => by
      rcases List.mem_cons.mp hb with rfl | hb
      · exact ⟨S, n, hS⟩
      · exact hot b hb) ?_)
    simp only [Bool.not_true, Bool.false_eq_true, if_false]
    refine wpAny_bind (wpAny_rule ?_)
    obtain ⟨oR, esR, epR, tR, hoR, hexR, hdR, helR, hmemR, hbR, hfR, hnR⟩ := id hR
    refine wpAny_bind (wpAny_setState_of hoR hdR hfR ?_)
    dsimp only
    split
    · refine wpAny_bind (wpAny_storeSet_of hoR hdR ?_ (fits_of_scanBound hbR))
      obtain ⟨_, hS2⟩ := SetOf_store (knd := intKind prog w) hoR hexR hdR helR hmemR hbR (t' := { tR with led := tR.led && t.led, plain := tR.plain && t.plain }) (by cases tR; exact hfR)
      rw [hnR] at hS2
      exact wpAny_pure (h es _ (List.Perm.refl _) (Heap.SameBut.update _ r _) hS2)
    · exact wpAny_pure (same es (List.Perm.refl _))
theorem SetOf_other {h h' : Heap} {r a : Addr} {S : Int → Bool} {n : Nat} (hsb : Heap.SameBut r h h') (hne : a ≠ r) (hS : h.SetOf (intKind prog w) a S n) : h'.SetOf (intKind prog w) a S n := by
  obtain ⟨o, es, ep, t, ho, rest⟩ := hS
  exact ⟨o, es, ep, t, (hsb.2 a hne).trans ho, rest⟩

/-- what the loop of an intersection has gathered -/
def Gath (S T : Int → Bool) (added : List Int) (rest : List (Int × Value)) : Prop :=
  added.Nodup ∧ (∀ k ∈ added, S k = true ∧ T k = true) ∧ ∀ k, S k = true → T k = true → k ∈ added ∨ ∃ e ∈ rest, Value.isInt k e.2 = true

theorem any_congr_append (l : List Int) (k : Int) : (fun k' => l.any (· == k') || decide (k' = k)) = fun k' => (l ++ [k]).any (· == k') := by
  funext k'
  rw [List.any_append]
  by_cases h : k' = k
  · subst h; simp
  · have : (k == k') = false := by simpa using fun e : k = k' => h e.symm
    simp [h, this]

theorem wpAny_gather {id : String} {asked walked r : Addr} {S T : Int → Bool} {n m : Nat} {l : Array (Int × Value)} {o : Obj} {es : Array (Int × Value)} {ep : Nat} {t : SetTable} {Q : Unit → Shared → Prop}
    (hne1 : asked ≠ r) (hne2 : walked ≠ r) (hA : s.heap.SetOf (intKind prog w) asked S n) (ho : s.heap.get? walked = some o) (hd : o.data = .set es ep t) (hf : t.fits es.size = true)
    (hW : s.heap.SetOf (intKind prog w) walked T m) (hel : ElemsOf (intKind prog w) es.toList) (hmem : ∀ k, T k = true ↔ ∃ e ∈ es.toList, (intKind prog w).is k e.2 = true) (hp : l.toList.Perm es.toList) (hroom : es.size + 1 < scanBound)
    (hR : s.heap.SetOf (intKind prog w) r (fun _ => false) 0)
    (h : ∀ h' (added : List Int), added.Nodup → (∀ k, k ∈ added ↔ S k = true ∧ T k = true) → Heap.SameBut r s.heap h' → h'.SetOf (intKind prog w) r (fun k => added.any (· == k)) added.length → Q () { s with heap := h' }) :
    wpAny (model prog w) A (forIn l PUnit.unit fun (x : Int × Value) (_ : PUnit) => do
      holding [x.2] (do
        if (← setFind asked x.2 x.1).isSome = true then do
          let _ ← setAddHashed r x.2 x.1
          pure PUnit.unit
        else pure PUnit.unit)
      Builtin.Frozenset.unchanged id walked ep
      pure (ForInStep.yield PUnit.unit)) Q E s := by
  have hsz : l.toList.length = es.size := by rw [hp.length_eq, Array.length_toList]
  refine wpAny_forIn_array' _ (fun rest _ s' => ∃ h' added, s' = { s with heap := h' } ∧ Gath S T added rest ∧ added.length + rest.length ≤ es.size ∧ ElemsOf (intKind prog w) rest ∧ (∀ e ∈ rest, e ∈ es.toList) ∧
      Heap.SameBut r s.heap h' ∧ h'.SetOf (intKind prog w) r (fun k => added.any (· == k)) added.length) _ (fun x rest _ s' hI => ?_) (fun _ s' hI => ?_) _ _ ?_
  · obtain ⟨h', added, rfl, ⟨hnd, hin, hall⟩, hlen, helr, hsub, hsb, hSr⟩ := hI
    obtain ⟨hx, vx⟩ := x
    obtain ⟨⟨k, hk, hh⟩, hsc⟩ := helr.head
    dsimp only at hk hh hsc ⊢
    subst hh
    have hTk : T k = true := (hmem k).mpr ⟨_, hsub _ (.head _), hk⟩
    have hepoch : ∀ {h'' : Heap} {Q' : Unit → Shared → Prop}, Heap.SameBut r s.heap h'' → Q' () { s with heap := h'' } → wpAny (model prog w) A (Builtin.Frozenset.unchanged id walked ep) Q' E { s with heap := h'' } := by
      intro h'' Q' hsb'' hq
      unfold Builtin.Frozenset.unchanged
      refine wpAny_bind (wpAny_setEpoch_of (s := { s with heap := h'' }) ((hsb''.2 walked hne2).trans ho) hd hf ?_)
      simp only [bne_self_eq_false, Bool.false_eq_true, if_false]
      exact wpAny_pure hq
    have hlen' : added.length + (rest.length + 1) ≤ es.size := by simpa using hlen
    refine wpAny_bind (wpAny_holding ?_)
    refine wpAny_bind (wpAny_setFind_of (knd := intKind prog w) (s := { s with heap := h' }) hk hsc (SetOf_other hsb hne1 hA) fun q hq => ?_)
    rw [hq]
    cases hSk : S k with
    | false =>
      simp only [Bool.false_eq_true, if_false]
      refine wpAny_pure (wpAny_bind (hepoch hsb (wpAny_pure ⟨h', added, rfl, ⟨hnd, hin, fun k' h1 h2 => ?_⟩, by omega, helr.tail, fun e he => hsub e (.tail _ he), hsb, hSr⟩)))
      rcases hall k' h1 h2 with h3 | ⟨e, he, hke⟩
      · exact .inl h3
      · rcases List.mem_cons.mp he with rfl | he
        · have : k' = k := Value.isInt_inj vx k' k hke hk
          subst this; rw [hSk] at h1; cases h1
        · exact .inr ⟨e, he, hke⟩
    | true =>
      simp only [if_true]
      refine wpAny_bind (wpAny_setAddHashed_of (knd := intKind prog w) (s := { s with heap := h' }) hk hsc hSr (by omega) fun h'' hsb2 hS2 => ?_)
      refine wpAny_pure (wpAny_bind (hepoch (hsb.trans hsb2) (wpAny_pure ?_)))
      by_cases hka : added.any (· == k) = true
      · have hkm : k ∈ added := by
          obtain ⟨y, hy, e⟩ := List.any_eq_true.mp hka
          rw [beq_iff_eq] at e; exact e ▸ hy
        rw [if_pos hka] at hS2
        refine ⟨h'', added, rfl, ⟨hnd, hin, fun k' h1 h2 => ?_⟩, by omega, helr.tail, fun e he => hsub e (.tail _ he), hsb.trans hsb2, SetOf_congr hS2 (fun k' => ?_) rfl⟩
        · rcases hall k' h1 h2 with h3 | ⟨e, he, hke⟩
          · exact .inl h3
          · rcases List.mem_cons.mp he with rfl | he
            · have : k' = k := Value.isInt_inj vx k' k hke hk
              exact .inl (this ▸ hkm)
            · exact .inr ⟨e, he, hke⟩
        · by_cases e : k' = k
          · subst e; simp [hka]
          · simp [e]
      · rw [if_neg hka] at hS2
        have hkm : k ∉ added := fun hm => hka (List.any_eq_true.mpr ⟨k, hm, by simp⟩)
        refine ⟨h'', added ++ [k], rfl, ⟨?_, fun k' hk' => ?_, fun k' h1 h2 => ?_⟩, by simp; omega, helr.tail, fun e he => hsub e (.tail _ he), hsb.trans hsb2, ?_⟩
        · exact List.nodup_append.mpr ⟨hnd, by simp, fun a ha b hb => by rw [List.mem_singleton.mp hb]; exact fun e => hkm (e ▸ ha)⟩
        · rcases List.mem_append.mp hk' with hk' | hk'
          · exact hin k' hk'
          · rw [List.mem_singleton.mp hk']; exact ⟨hSk, hTk⟩
        · rcases hall k' h1 h2 with h3 | ⟨e, he, hke⟩
          · exact .inl (List.mem_append_left _ h3)
          · rcases List.mem_cons.mp he with rfl | he
            · have : k' = k := Value.isInt_inj vx k' k hke hk
              exact .inl (List.mem_append_right _ (List.mem_singleton.mpr this))
            · exact .inr ⟨e, he, hke⟩
        · rw [any_congr_append] at hS2
          simpa using hS2
  · obtain ⟨h', added, rfl, ⟨hnd, hin, hall⟩, hlen, helr, hsub, hsb, hSr⟩ := hI
    refine h h' added hnd (fun k => ⟨hin k, fun ⟨h1, h2⟩ => ?_⟩) hsb hSr
    rcases hall k h1 h2 with h3 | ⟨e, he, _⟩
    · exact h3
    · cases he
  · refine ⟨s.heap, [], by cases s; rfl, ⟨List.nodup_nil, fun k hk => (by cases hk), fun k h1 h2 => Or.inr ?_⟩, by simp [hsz], hel.perm hp, fun e he => hp.mem_iff.mp he, Heap.SameBut.refl _ _, SetOf_congr hR (fun _ => rfl) rfl⟩
    obtain ⟨e, he, hk⟩ := (hmem k).mp h2
    exact ⟨e, hp.mem_iff.mpr he, hk⟩
theorem isSub_set_set : isSubtype (.type "set") (.type "set") = pure true := sub_set_self

theorem wpAny_isAnySet {a : Addr} {S : Int → Bool} {n : Nat} {Q : Bool → Shared → Prop} (hS : s.heap.SetOf (intKind prog w) a S n) (h : Q true s) : wpAny (model prog w) A (Builtin.Frozenset.isAnySet (.ref a)) Q E s := by
  unfold Builtin.Frozenset.isAnySet
  refine wpAny_bind (wpAny_isInstance hS.typeIs isSub_set_set ?_)
  exact wpAny_pure h

theorem wpAny_intersection {nm : String} {a b : Addr} {S T : Int → Bool} {n m : Nat} {Q : Value → Shared → Prop} (hab : a ≠ b)
    (hA : s.heap.SetOf (intKind prog w) a S n) (hB : s.heap.SetOf (intKind prog w) b T m) (hn : n + 1 < scanBound) (hm : m + 1 < scanBound)
    (h : ∀ h' (added : List Int), added.Nodup → (∀ k, k ∈ added ↔ S k = true ∧ T k = true) → (∀ c o, s.heap.get? c = some o → h'.get? c = some o) →
      h'.SetOf (intKind prog w) s.heap.objs.size (fun k => added.any (· == k)) added.length → Q (.ref s.heap.objs.size) { s with heap := h' }) :
    wpAny (model prog w) A (Builtin.Frozenset.intersection nm a (.ref b)) Q E s := by
  unfold Builtin.Frozenset.intersection
  have hne : (Value.ref b == Value.ref a) = false := by
    rw [beq_eq_false_iff_ne]; intro e; injection e with e; exact hab e.symm
  rw [hne]
  simp only [Bool.false_eq_true, if_false]
  unfold Builtin.Frozenset.baseOf
  refine wpAny_bind (wpAny_bind (wpAny_isInstance hA.typeIs isSub_set_set (wpAny_pure ?_)))
  simp only [if_true]
  refine wpAny_bind (wpAny_newSet_of (knd := intKind prog w) fun led hR => ?_)
  unfold Builtin.Frozenset.addrOf
  refine wpAny_bind (wpAny_pure ?_)
  dsimp only
  generalize hH : s.heap.push { cls := .type "set", dict := none, data := .set #[] 0 (.fresh 0 0 led) } = H at hR
  have hk : ∀ c o, s.heap.get? c = some o → H.get? c = some o := fun c o e => hH ▸ Heap.get?_push_of_some _ e
  have up : ∀ {c : Addr} {X : Int → Bool} {j : Nat}, s.heap.SetOf (intKind prog w) c X j → H.SetOf (intKind prog w) c X j := by
    rintro c X j ⟨o, es, ep, t, ho, rest⟩
    exact ⟨o, es, ep, t, hk _ _ ho, rest⟩
  have hltA : a < s.heap.objs.size := let ⟨_, _, _, _, ho, _⟩ := hA; Heap.lt_size ho
  have hltB : b < s.heap.objs.size := let ⟨_, _, _, _, ho, _⟩ := hB; Heap.lt_size ho
  have hA' := up hA
  have hB' := up hB
  have go : ∀ {asked walked : Addr} {X Y : Int → Bool} {i j : Nat}, asked ≠ s.heap.objs.size → walked ≠ s.heap.objs.size → H.SetOf (intKind prog w) asked X i → H.SetOf (intKind prog w) walked Y j → j + 1 < scanBound →
      (∀ k, (X k = true ∧ Y k = true) ↔ (S k = true ∧ T k = true)) →
      wpAny (model prog w) A (do
        let was ← setEpoch walked
        let xs ← setWalkUnseen walked [asked, s.heap.objs.size] (some s.heap.objs.size)
        let _ ← forIn xs PUnit.unit fun (x : Int × Value) (_ : PUnit) => do
          holding [x.2] (do
            if (← setFind asked x.2 x.1).isSome = true then do
              let _ ← setAddHashed s.heap.objs.size x.2 x.1
              pure PUnit.unit
            else pure PUnit.unit)
          Builtin.Frozenset.unchanged nm walked was
          pure (ForInStep.yield PUnit.unit)
        pure PUnit.unit) (fun (_ : PUnit) s' => Q (.ref s.heap.objs.size) s') E { s with heap := H } := by
    intro asked walked X Y i j h1 h2 hX hY hj hXY
    obtain ⟨o, es, ep, t, ho, hex, hd, hel, hmem, hb, hf, hes⟩ := id hY
    refine wpAny_bind (wpAny_setEpoch_of (s := { s with heap := H }) ho hd hf ?_)
    refine wpAny_bind (wpAny_setWalkUnseen (s := { s with heap := H }) ho hd hf hY hR (fun c hc => by
      rcases List.mem_cons.mp hc with rfl | hc
      · exact ⟨_, _, hX⟩
      · rw [List.mem_singleton.mp hc]; exact ⟨_, _, hR⟩) fun l h' hp hsb hR' => ?_)
    refine wpAny_bind (wpAny_gather (s := { s with heap := h' }) h1 h2 (SetOf_other hsb h1 hX) ((hsb.2 _ h2).trans ho) hd hf (SetOf_other hsb h2 hY) hel hmem hp (by rw [hes]; exact hj) hR' fun h'' added hnd hin hsb' hS' => ?_)
    refine wpAny_pure (h h'' added hnd (fun k => (hin k).trans (hXY k)) (fun c o e => ?_) hS')
    have hc : c ≠ s.heap.objs.size := Nat.ne_of_lt (Heap.lt_size e)
    exact (hsb'.2 c hc).trans ((hsb.2 c hc).trans (hk c o e))
  refine wpAny_bind (wpAny_holding ?_)
  refine wpAny_bind (wpAny_isAnySet (s := { s with heap := H }) hB' ?_)
  simp only [if_true]
  refine wpAny_bind (wpAny_pure ?_)
  unfold Builtin.Frozenset.sizeOf
  obtain ⟨oA, esA, epA, tA, hoA, hexA, hdA, helA, hmemA, hbA, hfA, hesA⟩ := id hA'
  obtain ⟨oB, esB, epB, tB, hoB, hexB, hdB, helB, hmemB, hbB, hfB, hesB⟩ := id hB'
  refine wpAny_bind (wpAny_bind (wpAny_setEntries_of (s := { s with heap := H }) hoB hdB hfB (wpAny_pure ?_)))
  refine wpAny_bind (wpAny_bind (wpAny_setEntries_of (s := { s with heap := H }) hoA hdA hfA (wpAny_pure ?_)))
  by_cases hc : esB.size > esA.size
  · simp only [if_pos hc]
    exact wpAny_mono (go (Nat.ne_of_lt hltB) (Nat.ne_of_lt hltA) hB' hA' hn (fun k => ⟨fun x => ⟨x.2, x.1⟩, fun x => ⟨x.2, x.1⟩⟩)) (fun _ s' hq => wpAny_pure hq) fun _ _ x => x
  · simp only [if_neg hc]
    exact wpAny_mono (go (Nat.ne_of_lt hltA) (Nat.ne_of_lt hltB) hA' hB' hm (fun k => Iff.rfl)) (fun _ s' hq => wpAny_pure hq) fun _ _ x => x

theorem entry_set_intersection : entryFor table "set.intersection" = some Builtin.«frozenset.intersection» :=
  entryFor_alias (id' := "frozenset.intersection") (by kernel_rfl) rfl (by decide +kernel) (by kernel_rfl)

theorem getMethod_set_intersection {a : Addr} {S : Int → Bool} {n : Nat} {pl : Sem Bool} {Q : Value × List Value → Shared → Prop} (hS : s.heap.SetOf (intKind prog w) a S n) (h : Q (.builtin "set.intersection", [.ref a]) s) :
    wpAny (model prog w) A (getMethod (.ref a) "intersection" pl) Q E s :=
  getMethod_builtin hS.typeIs F.plainAttrs_set F.slot_set_intersection F.type_set_intersection hS.noDict h

theorem call_set_intersection {a b : Addr} {S T : Int → Bool} {n m : Nat} {Q : Value → Shared → Prop} (hab : a ≠ b)
    (hA : s.heap.SetOf (intKind prog w) a S n) (hB : s.heap.SetOf (intKind prog w) b T m) (hn : n + 1 < scanBound) (hm : m + 1 < scanBound)
    (h : ∀ h' (added : List Int), added.Nodup → (∀ k, k ∈ added ↔ S k = true ∧ T k = true) → (∀ c o, s.heap.get? c = some o → h'.get? c = some o) →
      h'.SetOf (intKind prog w) s.heap.objs.size (fun k => added.any (· == k)) added.length → Q (.ref s.heap.objs.size) { s with heap := h' }) :
    wpAny (model prog w) A (call (.builtin "set.intersection") [.ref a, .ref b]) Q E s := by
  refine wpAny_call_entry F.slot_set_intersection hA.typeIs entry_set_intersection ?_ (F.args_set_intersection_2 _ _)
  unfold Builtin.«frozenset.intersection» Builtin.Frozenset.manyOthers
  simp only [List.isEmpty_nil, Bool.not_true, Bool.false_eq_true, if_false]
  refine wpAny_bind (wpAny_bind (wpAny_pure (wpAny_pure ?_)))
  simp only [List.isEmpty_cons, Bool.false_eq_true, if_false]
  refine wpAny_bind (wpAny_forIn_list _ (fun rest v s' => (rest = [Value.ref b] ∧ v = Value.ref a ∧ s' = s) ∨ (rest = [] ∧ Q v s')) _ (fun x rest v s' hI => ?_) (fun v s' hI => ?_) _ _ (.inl ⟨rfl, rfl, rfl⟩))
  · rcases hI with ⟨hr, rfl, rfl⟩ | ⟨hr, _⟩
    · injection hr with e1 e2
      subst e1; subst e2
      unfold Builtin.Frozenset.addrOf
      refine wpAny_bind (wpAny_holding (wpAny_bind (wpAny_pure ?_)))
      refine wpAny_intersection hab hA hB hn hm fun h' added hnd hin hk hS => ?_
      exact wpAny_pure (.inr ⟨rfl, h h' added hnd hin hk hS⟩)
    · cases hr
  · rcases hI with ⟨hr, _⟩ | ⟨_, hq⟩
    · cases hr
    · exact wpAny_pure ⟨_, rfl, hq⟩

theorem getMethod_set_pop {a : Addr} {S : Int → Bool} {n : Nat} {pl : Sem Bool} {Q : Value × List Value → Shared → Prop} (hS : s.heap.SetOf (intKind prog w) a S n) (h : Q (.builtin "set.pop", [.ref a]) s) :
    wpAny (model prog w) A (getMethod (.ref a) "pop" pl) Q E s :=
  getMethod_builtin hS.typeIs F.plainAttrs_set F.slot_set_pop F.type_set_pop hS.noDict h

theorem call_set_pop_one {a : Addr} {S : Int → Bool} {k : Int} {Q : Value → Shared → Prop} (hA : s.heap.SetOf (intKind prog w) a S 1) (hk : S k = true)
    (h : ∀ h' d' tk, Heap.SameBut a s.heap h' → Q (.int k tk) { s with heap := h', drawn := d' }) :
    wpAny (model prog w) A (call (.builtin "set.pop") [.ref a]) Q E s := by
  refine wpAny_call_entry F.slot_set_pop hA.typeIs F.entry_set_pop ?_ (F.args_set_pop_1 _)
  obtain ⟨o, es, ep, t, ho, hex, hd, hel, hmem, hb, hf, hn⟩ := hA
  have hsz : t.place.size = es.size := by
    simp only [SetTable.fits, Bool.and_eq_true, beq_iff_eq] at hf; exact hf.1
  obtain ⟨e, he, hke⟩ := (hmem k).mp hk
  have hes : es.toList = [e] := by
    have : es.toList.length = 1 := by rw [Array.length_toList, hn]
    obtain ⟨y, hy⟩ := List.length_eq_one_iff.mp this
    rw [hy] at he ⊢; rw [List.mem_singleton.mp he]
  obtain ⟨hx, vx⟩ := e
  obtain ⟨tk, rfl⟩ := Value.isInt_shape hke
  have h0 : es[0]? = some (hx, .int k tk) := by rw [← Array.getElem?_toList, hes]; rfl
  unfold Builtin.«set.pop» Builtin.Frozenset.noArgs
  simp only [List.isEmpty_nil, Bool.not_true, Bool.false_eq_true, if_false]
  unfold Builtin.Frozenset.addrOf
  refine wpAny_bind (wpAny_pure ?_)
  unfold setPop
  refine wpAny_bind (wpAny_bind (wpAny_setState_of ho hd hf ?_))
  have hsz1 : t.place.size = 1 := hsz.trans hn
  have hpp : t.popPlace = some 0 := by
    unfold SetTable.popPlace
    have he : t.place.isEmpty = false := by
      rw [Array.isEmpty_eq_false_iff]; intro e; rw [e] at hsz1; simp at hsz1
    rw [he, hsz1]
    simp only [Bool.false_eq_true, if_false]
    split
    · rename_i hlt; rw [Nat.lt_one_iff.mp hlt]
    · rfl
  dsimp only
  rw [hpp]
  dsimp only
  have fin : ∀ d', wpAny (model prog w) A.in1 (do
      let some (_, x) := es[0]? | unsupported "internal:set.pop"
      storeSet a (SetTable.eraseAt es 0) (t.popped 0)
      return some x) (fun a_1 s' => wpAny (model prog w) A.in1 (match a_1 with
        | some x => ret x
        | x => do
          rule "set.pop.empty"
          raiseErrorWords "KeyError" "pop from an empty set") (fun fin s' => ∃ v, fin = Fin.done (Flow.ret v) ∧ Q v s') E s') E { s with drawn := d' } := by
    intro d'
    rw [h0]
    dsimp only
    refine wpAny_bind (wpAny_storeSet_of (s := { s with drawn := d' }) ho hd ?_ ?_)
    · exact wpAny_pure (wpAny_pure ⟨_, rfl, h _ d' _ (Heap.SameBut.update _ _ _)⟩)
    · refine Nat.le_trans ?_ (fits_of_scanBound hb)
      unfold SetTable.eraseAt
      simp
  unfold setsByText
  refine wpAny_bind (wpAny_bind (wpAny_bind (wpAny_askSetting (wpAny_pure ?_))))
  refine wpAny_pure ?_
  show wpAny _ _ (if (w.params.followText "set-order" || (!t.plain && decide (es.size > 1))) = true then _ else _) _ _ _
  cases hc : (w.params.followText "set-order" || (!t.plain && decide (es.size > 1))) with
  | true =>
    simp only [if_true]
    refine wpAny_bind (wpAny_choose (by rw [hn]; decide) fun k' d' hk' => ?_)
    rw [hn] at hk'
    rw [Nat.lt_one_iff.mp hk']
    exact fin d'
  | false =>
    simp only [Bool.false_eq_true, if_false]
    refine wpAny_bind ?_
    show wpAny _ _ (if (!t.led && decide (es.size > 1)) = true then _ else _) _ _ _
    have hml : (!t.led && decide (es.size > 1)) = false := by rw [hn]; simp
    rw [hml]
    simp only [Bool.false_eq_true, if_false]
    refine wpAny_pure (wpAny_bind (wpAny_pure ?_))
    have := fin s.drawn
    cases s
    exact this

theorem call_set_pop_none {a : Addr} {S : Int → Bool} {Q : Value → Shared → Prop} (hh : A.handled = none) (hA : s.heap.SetOf (intKind prog w) a S 0)
    (h : ∀ h' tk e, Heap.NewExc s.heap h' e "KeyError" → E (.ref e) { s with heap := h', toks := tk }) :
    wpAny (model prog w) A (call (.builtin "set.pop") [.ref a]) Q E s := by
  refine wpAny_call_entry F.slot_set_pop hA.typeIs F.entry_set_pop ?_ (F.args_set_pop_1 _)
  obtain ⟨o, es, ep, t, ho, hex, hd, hel, hmem, hb, hf, hn⟩ := hA
  have hsz : t.place.size = es.size := by
    simp only [SetTable.fits, Bool.and_eq_true, beq_iff_eq] at hf; exact hf.1
  unfold Builtin.«set.pop» Builtin.Frozenset.noArgs
  simp only [List.isEmpty_nil, Bool.false_eq_true, if_false]
  unfold Builtin.Frozenset.addrOf
  refine wpAny_bind (wpAny_pure ?_)
  unfold setPop
  refine wpAny_bind (wpAny_bind (wpAny_setState_of ho hd hf ?_))
  have hpp : t.popPlace = none := by
    unfold SetTable.popPlace
    have he : t.place.isEmpty = true := by
      rw [Array.isEmpty_iff_size_eq_zero, hsz, hn]
    rw [he]
    simp only [if_true]
  dsimp only
  rw [hpp]
  dsimp only
  refine wpAny_pure (wpAny_bind (wpAny_rule (wpAny_raiseErrorWords plainExc_KeyError hh fun h' tk e x => h h' tk e x)))
end
end Mine
set_option maxRecDepth 100000
namespace Mine
section
variable {prog : Program} {w : World} {A : Around} {E : Value → Shared → Prop} {s : Shared} {h₀ : Heap} {L : Addr} {m : Str → Option Value} {news : List (Addr × Obj)}

/-- the generators: none sleeps in a guarded place, and the first ones are pre -/
def GP (pre : List GenState) (gens : Array GenState) : Prop := AllBare gens ∧ pre <+: gens.toList
theorem GP.push {pre : List GenState} {gens : Array GenState} {gs : GenState} (h : GP pre gens) (hb : gs.bare = true) : GP pre (gens.push gs) := ⟨h.1.push hb, h.2.trans (by rw [Array.toList_push]; exact List.prefix_append _ _)⟩
theorem pre_only {pre : List GenState} {a b : Array GenState} {g : Nat} (hp : pre <+: a.toList) (hg : pre.length ≤ g) (h : GenOnlyQ g a b) : pre <+: b.toList := by
  rcases h with rfl | ⟨⟨_, ho⟩, _⟩
  · exact hp
  · have e : b.toList.take pre.length = a.toList.take pre.length := by
      apply List.ext_getElem?
      intro k
      simp only [List.getElem?_take]
      split
      · rename_i hk
        simpa using ho k (by omega)
      · rfl
    rw [List.prefix_iff_eq_take.mp hp, ← e]
    exact List.take_prefix _ _
/-- a fresh generator at a that will yield the ints val 0 .. val (n - 1); what it writes lies above all that is tracked -/
def GenI (prog : Program) (w : World) (A : Around) (a : Addr) (n : Nat) (val : Nat → Int) (h₀ : Heap) (L : Addr) (news : List (Addr × Obj)) (pre : List GenState) (s : Shared) : Prop :=
  ∃ fp wr g St lo, pre.length ≤ g ∧ WalksS prog w A.in4 a fp wr (GenOnlyQ g) n (fun j y => ∃ t, y = .int (val j) t) St ∧ St 0 s ∧ s.TypeIs (.ref a) "generator" ∧ a ∈ fp ∧ (∀ b ∈ fp, b < s.heap.objs.size) ∧
    (∀ b ∈ wr, lo ≤ b) ∧ L < lo ∧ ∀ p ∈ news, p.1 < lo

theorem sub_gen_set : isSubtype (.type "generator") (.type "set") = pure false := by rw [isSubtype_type]; kernel_rfl
theorem sub_gen_frozenset : isSubtype (.type "generator") (.type "frozenset") = pure false := by rw [isSubtype_type]; kernel_rfl

set_option maxHeartbeats 3200000 in
theorem call_set_gen {pre : List GenState} {a : Addr} {n : Nat} {val : Nat → Int} {Q : Value → Shared → Prop} (hh : A.handled = none) (Fh : Fr h₀ L s.heap m) (N : News h₀ L s.heap news) (G : GP pre s.gens)
    (X : GenI prog w A a n val h₀ L news pre s) (hb : n + 1 < scanBound)
    (h : ∀ S h' g' tk o, (∀ p ∈ news, p.1 < S) → Fr h₀ L h' m → News h₀ L h' ((S, o) :: news) → GP pre g' → o.SetObjOf (intKind prog w) (fun k' => (firstMet val n).any (· == k')) (firstMet val n).length →
      Q (.ref S) { heap := h', gens := g', drawn := s.drawn, toks := tk, os := s.os }) :
    wpAny (model prog w) A (call (.type "set") [.ref a]) Q E s := by
  obtain ⟨fp, wr, g, St, lo, hpl9, W, hst, hTg, hafp, hfp, hwr, hLlo, hnlo⟩ := X
  obtain ⟨c, tl, hmro⟩ := F.called_set.mro
  have hmade := F.called_set.made
  have hsub := F.called_set.sub
  refine wpAny_call (codeAny_of_tree ?_)
  show wpAny _ _ (callAny (.type "set") _) _ _ _
  refine wpAny_pure ⟨Code.quiet_builtin _ (by decide +kernel), codeAny_builtin F.entry_type_call ?_⟩
  rw [Around.under_plain (weight_type_call_type "set" [.ref a] []) rfl]
  have h1 := F.called_set.notType
  have h2 := F.called_set.canCreate
  have hct := F.typeCall_set_1 (.ref a)
  repeat (any_goals (first | assumption | wp_step))
  refine codeAny_mono (code_set_new_1 (.ref a) (E := E) (Q₁ := fun obj s₁ => ∃ led : Bool, obj = .ref s.heap.objs.size ∧ s₁ = { s with heap := s.heap.push { cls := .type "set", dict := none, data := .set #[] 0 (.fresh 0 0 led) } }) fun led => ⟨led, rfl, rfl⟩) fun r s₁ hr => ?_
  cases r with
  | error e => exact hr
  | ok fl =>
    cases fl with
    | ret obj =>
      obtain ⟨led, rfl, rfl⟩ := hr
      have hS : (s.heap.push { cls := .type "set", dict := none, data := .set #[] 0 (.fresh 0 0 led) }).get? s.heap.objs.size = some { cls := .type "set", dict := none, data := .set #[] 0 (.fresh 0 0 led) } := Heap.get?_push_size _ rfl
      have hT : Shared.TypeIs { s with heap := s.heap.push { cls := .type "set", dict := none, data := .set #[] 0 (.fresh 0 0 led) } } (.ref s.heap.objs.size) "set" := ⟨_, hS, rfl⟩
      have hli := F.called_set.init.lookup
      have hbi := F.called_set.init.bind (.ref s.heap.objs.size)
      repeat (any_goals (first | assumption | wp_step))
      refine codeAny_mono (codeAny_call_builtin (R := wants (fun r s₂ => r = .none ∧ Q (.ref s.heap.objs.size) s₂) E) F.called_set.init.plain F.entry_set_init (check_set_init_1 hT ?_)) fun r₂ s₂ hr₂ => ?_
      · generalize hH : s.heap.push { cls := .type "set", dict := none, data := .set #[] 0 (.fresh 0 0 led) } = H at hS hT
        have hk : ∀ b o, s.heap.get? b = some o → H.get? b = some o := fun b o e => hH ▸ Heap.get?_push_of_some _ e
        have hTg' : Shared.TypeIs { s with heap := H } (.ref a) "generator" := by
          obtain ⟨o, ho, hc⟩ := hTg
          exact ⟨o, hk _ _ ho, hc⟩
        have hsg := sub_gen_set
        have hsf := sub_gen_frozenset
        have hne : (Value.type "generator" == Value.type "dict") = false := by decide
        unfold Builtin.«set.__init__» noKeywords Builtin.Frozenset.updateFrom
        generalize hPI : pyIter = PI
        wp_walk
        subst hPI
        have hst' : St 0 { s with heap := H } := W.frame 0 s H s.toks hst (Nat.le_refl _) fun b _ o e => hk _ _ e
        refine W.in4_2.self 0 _ _ _ hst' ?_
        refine wpAny_bind (wpAny_runValue ?_)
        refine codeAny_set_update_loopS (A := A.in1.in1) (WalksS.of_in1 (A := A.in1.in1.in1) W) s.heap.objs.size (fun hm => Nat.lt_irrefl _ (hfp _ hm)) val (fun i v hv => hv) hb n 0 _ (by omega) (Nat.zero_le _) hst' ?hS0 ?hR
        case hS0 =>
          exact SetOf_congr ((setObjOf_fresh (knd := intKind prog w) led).setOf hS (by unfold scanBound; omega)) (fun _ => rfl) rfl
        case hR =>
          intro s' hm hS'
          show wpAny _ _ _ _ _ _
          refine wpAny_pure ?_
          show wpAny _ _ (ret Value.none) _ _ _
          refine wpAny_pure ⟨rfl, ?_⟩
          have hLs : L < s.heap.objs.size := Fh.ns.lt
          have hwr' : ∀ b ∈ s.heap.objs.size :: wr, L < b := fun b hb => by
            rcases List.mem_cons.mp hb with rfl | hb
            · exact hLs
            · exact Nat.lt_of_lt_of_le hLlo (hwr b hb)
          obtain ⟨o, ho, hso⟩ := hS'.objOf
          have F₁ : Fr h₀ L ({ s with heap := H } : Shared).heap m := Fh.keeps hk
          have hg : GP pre s'.gens := ⟨AllBare.movedS (s := { s with heap := H }) G.1 hm, pre_only (a := s.gens) G.2 hpl9 hm.gens⟩
          obtain ⟨h', g', d', tk', os'⟩ := s'
          have ed : d' = s.drawn := hm.drawn
          have eo : os' = s.os := hm.os
          subst ed; subst eo
          refine h s.heap.objs.size h' g' tk' o (fun p hp => Heap.lt_size (N p hp).1) (F₁.moved hm hwr') (fun p hp => ?_) hg hso
          rcases List.mem_cons.mp hp with rfl | hp
          · exact ⟨ho, Nat.ne_of_gt hLs, none_at_size Fh⟩
          · refine ⟨hm.heap _ _ (fun hmem => ?_) (hk _ _ (N p hp).1), (N p hp).2⟩
            rcases List.mem_cons.mp hmem with e | hmem
            · exact absurd (Heap.lt_size (N p hp).1) (by rw [e]; exact Nat.lt_irrefl _)
            · exact absurd (hnlo p hp) (Nat.not_lt.mpr (hwr _ hmem))
      · cases r₂ with
        | error e => exact hr₂
        | ok fl₂ =>
          cases fl₂ with
          | ret r =>
            obtain ⟨rfl, hq⟩ := hr₂
            repeat (any_goals (first | assumption | wp_step))
          | _ => exact hr₂.elim
    | _ => exact hr.elim
abbrev tabO (ps : Array Value) : Obj := { cls := .none, data := .fields ps }

/-- what the evaluation of the range of a generator expression is followed by -/
def GenTo (prog : Program) (w : World) (A : Around) (env : Env) (scope : Scope) (cl : List (Str × Addr)) (x : Str) (elt : Expr) (pos : Pos) (Q : Value → Shared → Prop) (E : Value → Shared → Prop) (xv : Value) (s₁ : Shared) : Prop :=
  wpAny (model prog w) A (pyIter xv) (fun it s₂ => s₂.heap.NoLimit ∧
      wpAny (model prog w) A (genexprCode env pos (env.qual ++ "<genexpr>") scope) (fun code s₃ => wpAny (model prog w) A (builtinsFor env.globals env.builtins) (fun bi s₄ =>
        ∃ I fp wr n₀ P St₀ pz F, it = .ref I ∧ (∀ A' : Around, A'.handled = none → Walks prog w A' I fp wr n₀ P St₀) ∧ St₀ 0 s₄.heap ∧ (∀ b ∈ fp, b < s₄.heap.objs.size) ∧ s₄.heap.NoLimit ∧ cStatics ∉ wr ∧
          (∀ href : Heap, (∀ b o, s₄.heap.get? b = some o → href.get? b = some o) →
            QuietGen prog w (genEnv scope cl s₄.heap.objs.size code bi env) x [] elt (List.range s₄.heap.objs.size) wr P pz F href) ∧
          (∀ a h₅ tk gs, gs.bare = true → s₄.heap.objs.size < a → h₅.objs.size = a + 1 → (∀ b o, s₄.heap.get? b = some o → h₅.get? b = some o) →
            WalksS prog w A.in4 a (a :: s₄.heap.objs.size :: List.range s₄.heap.objs.size) (s₄.heap.objs.size :: wr) (GenOnlyQ s₄.gens.size) (passing pz n₀ 0).length
              (fun j y => ∃ i, (passing pz n₀ 0)[j]? = some i ∧ F i y) (GenAt prog w A.in4 a s₄.gens.size s₄.heap.objs.size (List.range s₄.heap.objs.size) wr pz n₀ F) →
            GenAt prog w A.in4 a s₄.gens.size s₄.heap.objs.size (List.range s₄.heap.objs.size) wr pz n₀ F 0 { s₄ with gens := s₄.gens.push gs, toks := tk, heap := h₅ } →
            Q (.ref a) { s₄ with gens := s₄.gens.push gs, toks := tk, heap := h₅ })) E s₃) E s₂) E s₁

theorem gen_start {env : Env} {elt iter : Expr} {x : Str} {px : Pos} {scope : Scope} {cl : List (Str × Addr)} {pos : Pos} {Q : Value → Shared → Prop}
    (hh : A.handled = none) (hco : scope.isCoroutine = false) (hclos : closureFor scope env = pure cl) (hcell : ∀ y ∈ scope.names, y.2 ≠ .cell) (h0 : scope.names.lookup (".0" : Str) = some NameKind.local)
    (hx : scope.names.lookup x = some .local) (hkind : scope.kind = .function) (hroom : A.depth < recursionLimit)
    (h : wpAny (model prog w) A (eval iter env) (GenTo prog w A env scope cl x elt pos Q E) E s)
    (hs : ∀ x, genFold iter env x = pure x) :
    wpAny (model prog w) A (eval (.GeneratorExp elt [⟨.Name x px, iter, [], 0⟩] scope pos) env) Q E s :=
  wpAny_GeneratorExp_walksQ hh hco hclos hcell h0 hx hkind hroom h hs

/-- `x + d` in a generator expression's own frame: x its loop's name, d a name of the def around it -/
theorem elt_add {env : Env} {x dn : Str} {dc : Addr} {p1 p2 p3 : Pos} {i d : Int} {t u : Tok} {mc : Str → Option Value} {Q : Value → Shared → Prop} (hn : s.heap.Ns env.locals mc) (hx : mc x = some (.int i t))
    (hk : env.scope.kind = .function) (hkx : env.kindOf x = some .local) (hkd : env.kindOf dn = some .free) (hc : env.cells.lookup dn = some dc) (hd : s.heap.IsCell dc (some (.int d u)))
    (hq : Q (.int (i + d) s.toks) { s with toks := s.toks + 1 }) (e1 : (x == ("__debug__" : Str)) = false) (e2 : (dn == ("__debug__" : Str)) = false) (e3 : (dn == ("__classdict__" : Str)) = false) :
    wpAny (model prog w) A (eval (.BinOp (.Name x p1) .Add (.Name dn p2) p3) env) Q E s :=
  wpAny_BinOp (wpAny_Name (wpAny_loadName_local hk hkx hn hx (wpAny_Name (wpAny_loadName_free hk hkd hc hd (PyProof.Rows.add_int hq) e3) e2)) e1)

theorem passing_all (n : Nat) : passing (fun _ => true) n 0 = List.range n := by unfold passing; simp

theorem gen_range {pre : List GenState} {env : Env} {x dn : Str} {dc P c r bm : Addr} {p1 p2 p3 : Pos} {scope : Scope} {pos : Pos} {Q : Value → Shared → Prop} {a b st d : Int} {t u v tkd : Tok} {ps : Array Value} {n : Nat} {rest : List (Addr × Obj)} {mg : Str → Option Value} {ob oc : Obj}
    (F : Fr h₀ L s.heap m) (N : News h₀ L s.heap ((P, tabO ps) :: rest)) (G : GP pre s.gens) (hr : IsRange s.heap r a b st t u v)
    (hlim : h₀.NoLimit) (M : BMod h₀ mainGlobals mg bm ob) (hgl : env.globals = mainGlobals) (hcode : env.code = .ref c) (hC : s.heap.IsCode c P ps)
    (hT : ∃ o vs, s.heap.get? c = some o ∧ o.cls = .type "code" ∧ o.data = .fields vs ∧ vs[11]? = some (.ref P)) (hoff : ∀ p ∈ rest, p.1 ≠ P)
    (hsmall : Builtin.Range.small a b st = true) (hn : Builtin.Range.rangeSize a b st = (n : Int))
    (hkind : scope.kind = .function) (hkx : scope.names.lookup x = some .local) (hkd : scope.names.lookup dn = some .free) (e1 : (x == ("__debug__" : Str)) = false) (e2 : (dn == ("__debug__" : Str)) = false) (e3 : (dn == ("__classdict__" : Str)) = false)
    (hcell : (dc, oc) ∈ rest) (hoc : oc.data = .cell (some (.int d tkd)))
    (hq : ∀ (ga : Addr) (h' : Heap) (g' : Array GenState) (tk : Nat) (ps' : Array Value), TriplesOk ps'.toList → Fr h₀ L h' m → News h₀ L h' ((P, tabO ps') :: rest) → GP pre g' →
      GenI prog w A ga n (fun i => a + i * st + d) h₀ L ((P, tabO ps') :: rest) pre { heap := h', gens := g', drawn := s.drawn, toks := tk, os := s.os } →
      Q (.ref ga) { heap := h', gens := g', drawn := s.drawn, toks := tk, os := s.os }) :
    GenTo prog w A env scope [(dn, dc)] x (.BinOp (.Name x p1) .Add (.Name dn p2) p3) pos Q E (.ref r) s := by
  unfold GenTo
  refine wpAny_pyIter_range hr hsmall ?_
  generalize hH : s.heap.push { cls := .type "range_iterator", data := .fields #[rawInt a, rawInt (Builtin.Range.rangeSize a b st), rawInt st] } = H
  have hk : ∀ b o, s.heap.get? b = some o → H.get? b = some o := fun b o e => hH ▸ Heap.get?_push_of_some _ e
  have hI : H.get? s.heap.objs.size = some { cls := .type "range_iterator", data := .fields #[rawInt a, rawInt (Builtin.Range.rangeSize a b st), rawInt st] } := hH ▸ Heap.get?_push_size _ rfl
  have hPlt : P < s.heap.objs.size := Heap.lt_size (N.get (.head _))
  refine ⟨(hlim.keeps F.keep).keeps hk, ?_⟩
  have hCH := hC.keeps hk
  have go : ∀ code h₃ tk₃ ps', Heap.ExtBut P H h₃ → h₃.get? P = some (tabO ps') → TriplesOk ps'.toList → H.objs.size ≤ h₃.objs.size →
      wpAny (model prog w) A (builtinsFor env.globals env.builtins) (fun bi s₄ =>
        ∃ I fp wr n₀ P St₀ pz F, Value.ref s.heap.objs.size = .ref I ∧ (∀ A' : Around, A'.handled = none → Walks prog w A' I fp wr n₀ P St₀) ∧ St₀ 0 s₄.heap ∧ (∀ b ∈ fp, b < s₄.heap.objs.size) ∧ s₄.heap.NoLimit ∧ cStatics ∉ wr ∧
          (∀ href : Heap, (∀ b o, s₄.heap.get? b = some o → href.get? b = some o) →
            QuietGen prog w (genEnv scope [(dn, dc)] s₄.heap.objs.size code bi env) x [] (.BinOp (.Name x p1) .Add (.Name dn p2) p3) (List.range s₄.heap.objs.size) wr P pz F href) ∧
          (∀ a h₅ tk gs, gs.bare = true → s₄.heap.objs.size < a → h₅.objs.size = a + 1 → (∀ b o, s₄.heap.get? b = some o → h₅.get? b = some o) →
            WalksS prog w A.in4 a (a :: s₄.heap.objs.size :: List.range s₄.heap.objs.size) (s₄.heap.objs.size :: wr) (GenOnlyQ s₄.gens.size) (passing pz n₀ 0).length
              (fun j y => ∃ i, (passing pz n₀ 0)[j]? = some i ∧ F i y) (GenAt prog w A.in4 a s₄.gens.size s₄.heap.objs.size (List.range s₄.heap.objs.size) wr pz n₀ F) →
            GenAt prog w A.in4 a s₄.gens.size s₄.heap.objs.size (List.range s₄.heap.objs.size) wr pz n₀ F 0 { s₄ with gens := s₄.gens.push gs, toks := tk, heap := h₅ } →
            Q (.ref a) { s₄ with gens := s₄.gens.push gs, toks := tk, heap := h₅ })) E { s with heap := h₃, toks := tk₃ } := by
    intro code h₃ tk₃ ps' hx hP₃ htr hsz₃
    have keep₃ : ∀ b o, b ≠ P → s.heap.get? b = some o → h₃.get? b = some o := fun b o hb e => hx b o hb (hk b o e)
    have hPn : h₀.get? P = none := N.fresh (.head _)
    have hne₀ : ∀ b o, h₀.get? b = some o → b ≠ P := fun b o e q => by rw [q, hPn] at e; cases e
    have keep₀ : ∀ b o, h₀.get? b = some o → h₃.get? b = some o := fun b o e => keep₃ b o (hne₀ b o e) (F.keep b o e)
    have M₃ : BMod h₃ mainGlobals mg bm ob := ⟨M.ns.keeps keep₀, M.name, M.ne, keep₀ _ _ M.obj, M.cls, M.dict, M.data⟩
    rw [hgl]
    refine wpAny_builtinsFor (s := { s with heap := h₃, toks := tk₃ }) M₃.ns M₃.name M₃.ne M₃.obj M₃.cls M₃.dict M₃.data ?_
    have hIP : s.heap.objs.size ≠ P := Nat.ne_of_gt hPlt
    have hIlt : s.heap.objs.size < h₃.objs.size := Nat.lt_of_lt_of_le (Heap.lt_size hI) hsz₃
    have hLP : L ≠ P := ((N _ (.head _)).2.1).symm
    have hcs : cStatics < s.heap.objs.size := by obtain ⟨_, hns, _⟩ := hlim.keeps F.keep; exact hns.lt
    refine ⟨s.heap.objs.size, [s.heap.objs.size], [s.heap.objs.size], n, _, _, fun _ => true, fun i y => ∃ t, y = .int (a + i * st + d) t, rfl, fun A' hA => Walks.range hA _ a st n, ?_, ?_, hlim.keeps keep₀, ?_, ?_, ?_⟩
    · have := hx _ _ hIP hI
      rw [hn] at this
      simpa [IsRangeIter, rawInt] using this
    · intro b hb; rw [List.mem_singleton.mp hb]; exact hIlt
    · intro hm; rw [List.mem_singleton.mp hm] at hcs; exact Nat.lt_irrefl _ hcs
    · intro href hkr
      have hdc : href.get? dc = some oc := hkr _ _ (keep₃ _ _ (hoff _ hcell) (N _ (.tail _ hcell)).1)
      refine ⟨fun A' E' i v s₂ m₂ hA hP hns hmx hkp => ?_, fun A' E' i v s₂ m₂ hA hP hpz hns hmx hkp => ?_⟩
      · show wpAny _ _ (pure true) _ _ _
        exact wpAny_pure ⟨rfl, s₂.heap, s₂.toks, by cases s₂; rfl, fun _ _ e => e⟩
      · obtain ⟨t', rfl⟩ := hP
        have hdc2 : dc < h₃.objs.size := Heap.lt_size (keep₃ _ _ (hoff _ hcell) (N _ (.tail _ hcell)).1)
        have hdcI : dc ∉ [s.heap.objs.size] := fun hm => by
          have := Heap.lt_size (N _ (.tail _ hcell)).1
          rw [List.mem_singleton.mp hm] at this; exact Nat.lt_irrefl _ this
        refine elt_add hns hmx hkind (by simpa [genEnv, Env.kindOf] using hkx) (by simpa [genEnv, Env.kindOf] using hkd) (by simp [genEnv]) ⟨oc, hkp dc (List.mem_range.mpr hdc2) hdcI _ hdc, hoc⟩ ⟨⟨_, rfl⟩, s₂.heap, s₂.toks + 1, by cases s₂; rfl, fun _ _ e => e⟩ e1 e2 e3
    · intro ga h₅ tk gs hgs hlt hsz hk₅ W hat
      have keep₅ : ∀ b o, h₀.get? b = some o → h₅.get? b = some o := fun b o e => hk₅ b o (keep₀ b o e)
      have hF : Fr h₀ L h₅ m := ⟨F.ns.at' fun o e => hk₅ _ _ (keep₃ _ _ hLP e), keep₅, F.above⟩
      have hN : News h₀ L h₅ ((P, tabO ps') :: rest) := fun p hp => by
        rcases List.mem_cons.mp hp with rfl | hp
        · exact ⟨hk₅ _ _ hP₃, (N _ (.head _)).2⟩
        · exact ⟨hk₅ _ _ (keep₃ _ _ (hoff p hp) (N _ (.tail _ hp)).1), (N _ (.tail _ hp)).2⟩
      rw [passing_all, List.length_range] at W
      have W' := W.imp (P' := fun j y => ∃ t, y = .int (a + (j : Int) * st + d) t) (fun j y hy => by
        obtain ⟨i, hi, hy⟩ := hy
        have : i = j := by
          rcases Nat.lt_or_ge j n with hj | hj
          · rw [List.getElem?_range hj] at hi; exact (Option.some.inj hi).symm
          · rw [List.getElem?_eq_none (by simpa using hj)] at hi; cases hi
        subst this; exact hy)
      refine hq ga h₅ _ tk ps' htr hF hN (G.push hgs) ⟨_, _, _, _, s.heap.objs.size, (show pre.length ≤ s.gens.size from by rw [← Array.length_toList]; exact G.2.length_le), W', hat, ?_, ?_, ?_, ?_, F.ns.lt, ?_⟩
      · exact hat.1.typeIs
      · exact List.mem_cons_self
      · intro b hb
        rcases List.mem_cons.mp hb with rfl | hb
        · show b < h₅.objs.size; rw [hsz]; exact Nat.lt_succ_self _
        · rcases List.mem_cons.mp hb with rfl | hb
          · show _ < h₅.objs.size; rw [hsz]; exact Nat.lt_succ_of_lt hlt
          · have := List.mem_range.mp hb
            show b < h₅.objs.size; rw [hsz]; exact Nat.lt_succ_of_lt (Nat.lt_trans this hlt)
      · intro b hb
        rcases List.mem_cons.mp hb with rfl | hb
        · exact Nat.le_of_lt hIlt
        · rw [List.mem_singleton.mp hb]; exact Nat.le_refl _
      · intro p hp
        rcases List.mem_cons.mp hp with rfl | hp
        · exact hPlt
        · exact Heap.lt_size (N _ (.tail _ hp)).1
  obtain ⟨o11, vs11, hc1, hc2, hc3, hc4⟩ := hT
  have hTH : H.TableAt c P ps := ⟨⟨o11, vs11, hk _ _ hc1, hc2, hc3, hc4⟩, hk _ _ (N.get (.head _))⟩
  cases hf : codeAmong pos ps.toList with
  | some c' =>
    refine wpAny_genexprCode_hit (s := { s with heap := H }) hcode hCH hf ?_
    obtain ⟨_, _, _, _, _, _, _, _, _, _, _, _, _, _, _, _, _, _, _, htr, _⟩ := hC
    exact go c' H s.toks ps (Heap.ExtBut.refl _ _) hTH.2 htr (Nat.le_refl _)
  | none =>
    refine wpAny_genexprCodeX (s := { s with heap := H }) hcode hCH hTH hf fun c' h₃ tk hx hle hlt hC' _ hT' _ => ?_
    obtain ⟨_, _, _, _, _, _, _, _, _, _, _, _, _, _, _, _, _, _, _, htr, _⟩ := hC'
    exact go (.ref c') h₃ tk _ hx hT'.2 htr (Nat.le_of_lt (Nat.lt_of_le_of_lt hle hlt))
theorem call_inter_N {a b : Addr} {oa ob : Obj} {S T : Int → Bool} {n k : Nat} {Q : Value → Shared → Prop} (F : Fr h₀ L s.heap m) (N : News h₀ L s.heap news) (hab : a ≠ b) (ha : (a, oa) ∈ news) (hb : (b, ob) ∈ news)
    (sa : oa.SetObjOf (intKind prog w) S n) (sb : ob.SetObjOf (intKind prog w) T k) (hn : n + 1 < scanBound) (hk : k + 1 < scanBound)
    (h : ∀ R h' o (added : List Int), added.Nodup → (∀ x, x ∈ added ↔ S x = true ∧ T x = true) → (∀ p ∈ news, p.1 < R) → Fr h₀ L h' m → News h₀ L h' ((R, o) :: news) → o.SetObjOf (intKind prog w) (fun x => added.any (· == x)) added.length →
      Q (.ref R) { s with heap := h' }) :
    wpAny (model prog w) A (call (.builtin "set.intersection") [.ref a, .ref b]) Q E s := by
  refine call_set_intersection hab (sa.setOf (N.get ha) (by omega)) (sb.setOf (N.get hb) (by omega)) hn hk fun h' added hnd hin hkeep hS => ?_
  obtain ⟨o, ho, hso⟩ := hS.objOf
  refine h _ h' o added hnd hin (fun p hp => Heap.lt_size (N p hp).1) (F.keeps hkeep) (fun p hp => ?_) hso
  rcases List.mem_cons.mp hp with rfl | hp
  · exact ⟨ho, Nat.ne_of_gt F.ns.lt, none_at_size F⟩
  · exact ⟨hkeep _ _ (N p hp).1, (N p hp).2⟩

theorem call_pop_N {R : Addr} {o : Obj} {x : Int} {added : List Int} {Q : Value → Shared → Prop} (F : Fr h₀ L s.heap m) (N : News h₀ L s.heap ((R, o) :: news)) (hlt : ∀ p ∈ news, p.1 < R)
    (so : o.SetObjOf (intKind prog w) (fun y => added.any (· == y)) added.length) (hx : added = [x])
    (h : ∀ h' d' tk, Fr h₀ L h' m → News h₀ L h' news → Q (.int x tk) { s with heap := h', drawn := d' }) :
    wpAny (model prog w) A (call (.builtin "set.pop") [.ref R]) Q E s := by
  subst hx
  refine call_set_pop_one (k := x) (so.setOf (N.get (.head _)) (show 1 < scanBound by decide)) (by simp) fun h' d' tk hsb => ?_
  have hR : h₀.get? R = none := N.fresh (.head _)
  refine h h' d' tk ⟨F.ns.sameBut hsb (fun e => (N _ (.head _)).2.1 e.symm), fun b ob e => (hsb.2 b (fun q => by rw [q, hR] at e; cases e)).trans (F.keep b ob e), F.above⟩ fun p hp => ?_
  exact ⟨(hsb.2 _ (Nat.ne_of_lt (hlt p hp))).trans (N p (.tail _ hp)).1, (N p (.tail _ hp)).2⟩

theorem meth_inter_N {a : Addr} {oa : Obj} {S : Int → Bool} {n : Nat} {pl : Sem Bool} {Q : Value × List Value → Shared → Prop} (N : News h₀ L s.heap news) (ha : (a, oa) ∈ news) (sa : oa.SetObjOf (intKind prog w) S n) (hn : n < scanBound)
    (h : Q (.builtin "set.intersection", [.ref a]) s) : wpAny (model prog w) A (getMethod (.ref a) "intersection" pl) Q E s := getMethod_set_intersection (sa.setOf (N.get ha) hn) h
theorem meth_pop_N {a : Addr} {oa : Obj} {S : Int → Bool} {n : Nat} {pl : Sem Bool} {Q : Value × List Value → Shared → Prop} (N : News h₀ L s.heap news) (ha : (a, oa) ∈ news) (sa : oa.SetObjOf (intKind prog w) S n) (hn : n < scanBound)
    (h : Q (.builtin "set.pop", [.ref a]) s) : wpAny (model prog w) A (getMethod (.ref a) "pop" pl) Q E s := getMethod_set_pop (sa.setOf (N.get ha) hn) h

theorem firstMet_mem (val : Nat → Int) (n : Nat) (k : Int) : (firstMet val n).any (· == k) = true ↔ ∃ j, j < n ∧ val j = k := by
  rw [firstMet_any, List.any_map, List.any_eq_true]
  simp
theorem firstMet_fits (val : Nat → Int) {n : Nat} (h : n + 1 < scanBound) : (firstMet val n).length + 1 < scanBound := by have := firstMet_length_le val n; omega
end
end Mine
set_option maxRecDepth 100000
namespace Mine
section
open PySem.AutoSeq1 (wpAny_loadPart')
open PySem.MeetsSeq PySem.SeqAt
variable {prog : Program} {w : World} {A : Around} {E : Value → Shared → Prop} {s : Shared} {h₀ : Heap} {L : Addr} {m : Str → Option Value} {news : List (Addr × Obj)}
theorem listRaise_value {α : Type} {msg : Str} {Q : α → Shared → Prop} (hh : A.handled = none) (hm : msg.length ≤ sizeLine)
    (h : ∀ h' tk e, Heap.NewExc s.heap h' e "ValueError" → E (.ref e) { s with heap := h', toks := tk }) : wpAny (model prog w) A (Builtin.List.listRaiseStr "ValueError" msg : Sem α) Q E s := by
  unfold Builtin.List.listRaiseStr
  refine wpAny_bind (wpAny_mkStr (wpAny_bind ?_) hm)
  refine wpAny_newExc_plain (s := { s with toks := s.toks + 1 }) plainExc_ValueError (fun h' e hx => ?_) (by show 1 ≤ sizeLine; rw [sizeLine_eq]; decide)
  refine wpAny_raiseNew_none hh (h _ _ _ ⟨hx.keeps, hx.new, ?_⟩)
  obtain ⟨t, ht, _⟩ := hx.there
  exact ⟨_, _, ht, rfl, rfl⟩

theorem index_loop_out (l : Addr) (items : Array Value) (n : Nat) (dd : Option Addr) (sl : Array (Option Value)) (x : Str) (u : Tok) (e : Value → Bool) (upto : Int) (hx : (reprText x).length + 15 ≤ sizeLine)
    (hno : ∀ m (hm : m < items.size), e items[m] = false) (k : Nat) :
    ∀ i : Nat, items.size - i = k → i ≤ items.size → Meets (Builtin.«list.index.loop» ⟨[.ref l, .str x u, rawInt i, rawInt upto], []⟩)
      (fun A R s => A.handled = none ∧ s.heap.get? l = some { cls := .type "list", dict := dd, data := .seq items n, slots := sl } ∧ (∀ y, y ∈ items → EqAt A.in1 s y (.str x u) (e y)) ∧
        ∀ h' tk e, Heap.NewExc s.heap h' e "ValueError" → R (.error (.ref e)) { s with heap := h', toks := tk }) := by
  have hlen : (reprText x ++ ((" is not in list" : String) : Str)).length ≤ sizeLine := by
    have e1 : (reprText x ++ ((" is not in list" : String) : Str)).length = (reprText x).length + ((" is not in list" : String) : Str).length := Str.length_append _ _
    have e2 : ((" is not in list" : String) : Str).length = 15 := by decide
    omega
  induction k with
  | zero =>
    intro i hk hi prog w A R s h
    obtain ⟨hp, g, d, tk, os⟩ := s; obtain ⟨hh, hl, he, h⟩ := h
    wp_walk using wpAny_loadPart' hl
    have hz : (if (i : Int) < upto then items[((i : Nat) : Int).toNat]? else none) = none := by
      have : items[((i : Nat) : Int).toNat]? = none := by simp; omega
      rw [this]; split <;> rfl
    rw [hz]
    dsimp only
    refine wpAny_bind (wpAny_rule ?_)
    refine wpAny_bind (wpAny_pyRepr_str ?_ (by omega))
    refine listRaise_value (s := ⟨hp, g, d, tk + 1, os⟩) (A := A.in1) ?_ ?_ ?_
    · exact hh
    · exact hlen
    · exact fun h' tk e x => h h' tk e x
  | succ k ih =>
    intro i hk hij prog w A R s h
    obtain ⟨hp, g, d, tk, os⟩ := s; obtain ⟨hh, hl, he, h⟩ := h
    have hlt : i < items.size := by omega
    wp_walk using wpAny_loadPart' hl
    by_cases hst : (i : Int) < upto
    · have hi : (if (i : Int) < upto then items[((i : Nat) : Int).toNat]? else none) = some items[i] := by simp [hst, hlt]
      have hc : ((i : Int) + 1) = ((i + 1 : Nat) : Int) := by push_cast; rfl
      rw [hi]
      refine wpAny_bind (he _ (Array.getElem_mem hlt) prog w _ _ ?_)
      rw [hno i hlt]
      wp_walk
      rw [hc]
      exact ⟨plainId_quiet plain_index_loop _, codeAny_builtin entry_index_loop (by
        rw [Around.under_plainId plain_index_loop _]
        exact ih (i + 1) (by omega) (by omega) prog w A R _ ⟨hh, hl, he, h⟩)⟩
    · have hz : (if (i : Int) < upto then items[((i : Nat) : Int).toNat]? else none) = none := by rw [if_neg hst]
      rw [hz]
      dsimp only
      refine wpAny_bind (wpAny_rule (wpAny_bind (wpAny_pyRepr_str ?_ (by omega))))
      refine listRaise_value (s := ⟨hp, g, d, tk + 1, os⟩) (A := A.in1) ?_ ?_ ?_
      · exact hh
      · exact hlen
      · exact fun h' tk e x => h h' tk e x

theorem list_index_out (l : Addr) (items : Array Value) (n : Nat) (dd : Option Addr) (sl : Array (Option Value)) (x : Str) (u : Tok) (e : Value → Bool) (hx : (reprText x).length + 15 ≤ sizeLine) (hno : ∀ m (hm : m < items.size), e items[m] = false) :
    Meets (Builtin.«list.index» ⟨[.ref l, .str x u], []⟩)
      (fun A R s => A.handled = none ∧ s.heap.get? l = some { cls := .type "list", dict := dd, data := .seq items n, slots := sl } ∧ (∀ y, y ∈ items → EqAt A.in1 s y (.str x u) (e y)) ∧
        ∀ h' tk e, Heap.NewExc s.heap h' e "ValueError" → R (.error (.ref e)) { s with heap := h', toks := tk }) := by
  intro prog w A R s h
  obtain ⟨hp, g, d, tk, os⟩ := s; obtain ⟨hh, hl, he, h⟩ := h
  wp_walk using wpAny_loadPart' hl
  have a1 : ((fun i : Int => if i < 0 then max 0 (i + (items.size : Int)) else i) ((none : Option Int).getD 0)) = ((0 : Nat) : Int) := by simp
  have a2 : ((fun i : Int => if i < 0 then max 0 (i + (items.size : Int)) else i) ((none : Option Int).getD (2 ^ 63 - 1))) = 2 ^ 63 - 1 := by simp
  rw [a1, a2]
  exact ⟨plainId_quiet plain_index_loop _, codeAny_builtin entry_index_loop (by
    rw [Around.under_plainId plain_index_loop _]
    exact index_loop_out l items n dd sl x u e (2 ^ 63 - 1) hx hno _ 0 rfl (Nat.zero_le _) prog w A R _ ⟨hh, hl, he, h⟩)⟩

/-- list.index of a text in a list of texts: its first place, or ValueError -/
theorem index_strs {l : Addr} {vs : List Value} {ys : List Str} {k : Str} {t : Tok} {Q : Value → Shared → Prop} (hh : A.handled = none) (hl : s.heap.IsList l vs.toArray) (hi : StrsAre vs ys) (hsz : ys.length < 1000) (hx : (reprText k).length + 15 ≤ sizeLine)
    (hq : ys.idxOf k < ys.length → Q (.int (ys.idxOf k : Nat) s.toks) { s with toks := s.toks + 1 })
    (he : k ∉ ys → ∀ h' tk e, Heap.NewExc s.heap h' e "ValueError" → E (.ref e) { s with heap := h', toks := tk }) :
    wpAny (model prog w) A (call (.builtin "list.index") [.ref l, .str k t]) Q E s := by
  obtain ⟨⟨cls, dd, data, sl⟩, ho, hc, n, hd⟩ := id hl
  simp only at hc hd
  subst hc hd
  have hlen : vs.length = ys.length := StrsAre.len_eq hi
  have hat : ∀ j (hj : j < vs.length) (hj' : j < ys.length), isStrOf k vs[j] = (ys[j] == k) := by
    clear hl ho hq he hsz hlen
    induction hi with
    | nil => intro j hj; simp at hj
    | cons n t h ih =>
      intro j hj hj'
      cases j with
      | zero => rfl
      | succ j => exact ih j (by simpa using hj) (by simpa using hj')
  by_cases hk : k ∈ ys
  · have hj : ys.idxOf k < ys.length := List.idxOf_lt_length_iff.mpr hk
    refine call_meets PySem.F.slot_list_index ⟨_, ho, rfl⟩ PySem.F.entry_list_index (PySem.F.args_list_index_2 _ _)
      (list_indexAt l vs.toArray n dd sl (.str k t) (isStrOf k) (ys.idxOf k) (by simpa [hlen] using hj) (by omega) ?_ ?_) ⟨ho, fun y hy => (eq_isStrOf k t hi y (by simpa using hy)).at _ _, hq hj⟩
    · show isStrOf k vs[ys.idxOf k] = true
      rw [hat _ _ hj]
      simpa using List.getElem_idxOf hj
    · intro j hjs hlt
      show isStrOf k vs[j] = false
      rw [hat j (by simpa using hjs) (by omega)]
      exact Bool.eq_false_iff.mpr fun hc => absurd (List.not_of_lt_findIdx (p := (· == k)) hlt) (by simpa using hc)
  · refine call_meets PySem.F.slot_list_index ⟨_, ho, rfl⟩ PySem.F.entry_list_index (PySem.F.args_list_index_2 _ _)
      (list_index_out l vs.toArray n dd sl k t (isStrOf k) hx ?_) ⟨hh, ho, fun y hy => (eq_isStrOf k t hi y (by simpa using hy)).at _ _, he hk⟩
    intro j hjs
    show isStrOf k vs[j] = false
    have hj' : j < ys.length := by rw [← hlen]; simpa using hjs
    rw [hat j (by simpa using hjs) hj']
    apply Bool.eq_false_iff.mpr
    intro hc
    exact hk ((eq_of_beq hc) ▸ List.getElem_mem hj')
end
end Mine
set_option maxRecDepth 100000
namespace Mine
section
variable {M : Model} {A : Around} {E : Value → Shared → Prop} {s : Shared} {env : Env}

theorem step_upd {e : Addr} {oe : Obj} {vs : Array Value} {i : Nat} {v : Value} {Q : Unit → Shared → Prop} (he : s.heap.get? e = some oe) (hd : oe.data = .fields vs) (hi : i < vs.size)
    (h : ∀ h', Heap.SameBut e s.heap h' → h'.get? e = some (oe.mapFields (·.setIfInBounds i v)) → Q () { s with heap := h' }) : wpAny M A (setField (.ref e) i v) Q E s :=
  wpAny_setField he hd hi (h _ (.update ..) (Heap.get?_update_self _ he (Obj.isFreed_of_fields (Obj.data_mapFields hd _))))
end

section
variable {prog : Program} {w : World} {A : Around} {E : Value → Shared → Prop} {s : Shared} {env : Env}

theorem entry_unchain : entryFor table "proto.unchain" = some Builtin.«proto.unchain» := entryFor_of_fast (by kernel_rfl)
/-- the chain of contexts ends at once -/
theorem unchain_end {e k : Addr} {ok : Obj} {vk : Array Value} {Q : Value → Shared → Prop} (hk : s.heap.get? k = some ok) (hd : ok.data = .fields vk) (h2 : vk[2]? = some .none) (h : Q .none s) :
    wpAny (model prog w) A (runValue (.builtin "proto.unchain" ⟨[.ref e, .ref k, .ref k, .bool false], []⟩)) Q E s := by
  refine wpAny_runValue (codeAny_builtin entry_unchain ?_)
  refine wpAny_of_in1 ?_
  unfold Builtin.«proto.unchain»
  dsimp only
  refine wpAny_bind (wpAny_field hk hd h2 ?_)
  rw [if_pos (by decide)]
  exact wpAny_pure h

theorem raiseNew_in {α : Type} {e k : Addr} {oe ok : Obj} {ve vk : Array Value} {Q : α → Shared → Prop} (hh : A.handled = some (.ref k)) (hne : k ≠ e) (he : s.heap.get? e = some oe) (hde : oe.data = .fields ve) (hz : 2 < ve.size)
    (hk : s.heap.get? k = some ok) (hd : ok.data = .fields vk) (h2 : vk[2]? = some .none)
    (h : ∀ h', Heap.SameBut e s.heap h' → h'.get? e = some (oe.mapFields (·.setIfInBounds 2 (.ref k))) → E (.ref e) { s with heap := h' }) : wpAny (model prog w) A (raiseNew (.ref e) : Sem α) Q E s := by
  unfold raiseNew
  refine wpAny_bind (wpAny_handled ?_)
  rw [hh]
  have hb : ((Value.ref k : Value) != Value.ref e) = true := by simpa using hne
  dsimp only
  rw [if_pos hb]
  refine wpAny_bind (wpAny_holding (unchain_end hk hd h2 ?_))
  exact wpAny_bind (step_upd (i := 2) (v := .ref k) he hde hz fun h' h1 h2 => wpAny_throw (h h' h1 h2))
end

section
variable {M : Model} {A : Around} {E : Value → Shared → Prop} {s : Shared} {env : Env}

/-- an exception in flight: T its traceback, fl the frame that the traceback is in, c2 its context -/
def TrX (h B : Heap) (e : Addr) (cls c2 : Value) (T : Addr) (fl : Value) : Prop :=
  ∃ oe vs oT ts a0, h.get? e = some oe ∧ oe.cls = cls ∧ oe.data = .fields vs ∧ vs[0]? = some a0 ∧ vs[1]? = some (.ref T) ∧ vs[2]? = some c2 ∧ B.get? T = none ∧ T ≠ e ∧ h.get? T = some oT ∧ oT.data = .fields ts ∧ ts[3]? = some fl
theorem TrX.at {h B : Heap} {e : Addr} {cls c2 : Value} {T : Addr} {fl : Value} (x : TrX h B e cls c2 T fl) : ∃ a0, h.TracedAtW B e cls a0 fl := by
  obtain ⟨oe, vs, oT, ts, a0, h1, h2, h3, h4, h5, h6, h7, h8, h9, h10, h11⟩ := x
  exact ⟨a0, oe, vs, T, oT, ts, h1, ⟨h2, h4⟩, h3, h5, h7, h8, h9, h10, h11⟩
theorem TrX.keeps {h h' B : Heap} {e : Addr} {cls c2 : Value} {T : Addr} {fl : Value} (x : TrX h B e cls c2 T fl) (k : ∀ b o, h.get? b = some o → (∃ vs, o.data = .fields vs) → h'.get? b = some o) : TrX h' B e cls c2 T fl := by
  obtain ⟨oe, vs, oT, ts, a0, h1, h2, h3, h4, h5, h6, h7, h8, h9, h10, h11⟩ := x
  exact ⟨oe, vs, oT, ts, a0, k _ _ h1 ⟨_, h3⟩, h2, h3, h4, h5, h6, h7, h8, k _ _ h9 ⟨_, h10⟩, h10, h11⟩

theorem note_first {base : Heap} {outer : List Env} {L e : Addr} {oe : Obj} {vs : Array Value} {a0 c2 : Value} {Q : Unit → Shared → Prop}
    (hfr : A.frames = some (env :: outer)) (hl : s.heap.FunFrames base (env :: outer)) (hf : env.frame = some L)
    (he : s.heap.get? e = some oe) (hkb : base.StaysIn s.heap) (hen : base.get? e = none) (hd : oe.data = .fields vs) (h0 : vs[0]? = some a0) (h1 : vs[1]? = some .none) (h2 : vs[2]? = some c2)
    (h : ∀ h' T, s.heap.get? T = none → base.StaysIn h' → h'.FunFrames base (env :: outer) → TrX h' base e oe.cls c2 T (rawInt L) → s.heap.UpToSlots h' → Q () { s with heap := h' }) : wpAny M A (noteFrame (.ref e) env) Q E s := by
  have hsz : 1 < vs.size := (Array.getElem?_eq_some_iff.mp h1).1
  unfold noteFrame
  simp only [hf]
  refine wpAny_bind (wpAny_field he hd h1 ?_)
  rw [if_neg (by decide)]
  have hene : e ∉ (env :: outer).filterMap (·.frame) := fun hm => by
    obtain ⟨_, o, ho, hnf⟩ := hl.mem hm
    rw [he] at ho; injection ho with ho; subst ho; exact hnf vs hd
  refine wpAny_bind (wpAny_frameOf_fun hfr hl hf fun h₁ hs₁ => ?_)
  refine wpAny_bind (wpAny_entryPlaceOf fun pl hpl => ?_)
  unfold EntryCells.newEntry newFields
  refine wpAny_bind (wpAny_newObj_type ?_ (hpl.sizeOk5 _ _ _ _ _))
  have he₁ : h₁.get? e = some oe := (hs₁.2.1 e hene).trans he
  have kb₁ : base.StaysIn h₁ := fun b o hbo => (hs₁.2.1 b fun hm => by rw [(hl.mem hm).1] at hbo; cases hbo).trans (hkb b o hbo)
  have he₂ := Heap.get?_push_of_some (h := h₁) { cls := .type "traceback", dict := none, data := .fields ([Value.none, .ref L, .none, rawInt L, .none] ++ (if pl.isEmpty then List.replicate 6 Value.none else pl)).toArray } he₁
  refine wpAny_setField he₂ hd hsz (h _ h₁.objs.size ?_ ?_ ?_ ?_ ?_)
  all_goals
    have hTe : h₁.objs.size ≠ e := Nat.ne_of_gt (Heap.lt_size he₁)
    have hd₃ := Obj.data_mapFields hd (·.setIfInBounds 1 (Value.ref h₁.objs.size))
    have he₃ := Heap.get?_update_self (Obj.mapFields (·.setIfInBounds 1 (Value.ref h₁.objs.size))) he₂ (Obj.isFreed_of_fields hd₃)
    have hT₃ := (Heap.get?_update_other (h₁.push { cls := .type "traceback", dict := none, data := .fields ([Value.none, .ref L, .none, rawInt L, .none] ++ (if pl.isEmpty then List.replicate 6 Value.none else pl)).toArray })
      (Obj.mapFields (·.setIfInBounds 1 (Value.ref h₁.objs.size))) (Ne.symm hTe)).trans (Heap.get?_push_size h₁ rfl)
    have keep : ∀ b o, b ≠ e → h₁.get? b = some o →
        ((h₁.push { cls := .type "traceback", dict := none, data := .fields ([Value.none, .ref L, .none, rawInt L, .none] ++ (if pl.isEmpty then List.replicate 6 Value.none else pl)).toArray }).update e (Obj.mapFields (·.setIfInBounds 1 (Value.ref h₁.objs.size)))).get? b = some o :=
      fun b o hbe hb => by
        rw [Heap.get?_update_other _ _ (Ne.symm hbe)]
        exact Heap.get?_push_of_some _ hb
    have noRecord : ∀ b o, s.heap.get? b = some o → (∀ vs, o.data ≠ .fields vs) → b ≠ e := fun b o hb hnf q => by
      rw [q, he] at hb; injection hb with hb; subst hb; exact hnf vs hd
  · exact Heap.get?_none_of_le (by rw [hs₁.1]; exact Nat.le_refl _)
  · exact fun b o hbo => keep b o (fun q => by rw [q, hen] at hbo; cases hbo) (kb₁ b o hbo)
  · exact hl.of_keeps fun b o hb hnf => by
      obtain ⟨sl, hs⟩ := hs₁.2.2 b o hb
      exact ⟨_, keep b _ (noRecord b o hb hnf) hs, rfl⟩
  · exact ⟨_, _, _, _, a0, he₃, Obj.cls_mapFields _ _, hd₃, by rw [Array.getElem?_setIfInBounds_ne (by decide)]; exact h0, by simp [hsz], by rw [Array.getElem?_setIfInBounds_ne (by decide)]; exact h2, kb₁.fresh, hTe, hT₃, rfl,
      by first | (simp; done) | (rcases hpl with rfl | ⟨_, _, _, _, _, _, _, rfl⟩ <;> simp)⟩
  · intro b o hb hnf
    obtain ⟨sl, hs⟩ := hs₁.2.2 b o hb
    exact ⟨sl, keep b _ (noRecord b o hb hnf) hs⟩

theorem set_flight {base : Heap} {l : List Env} {e T : Addr} {cls c2 fl : Value} {fr : Option Addr} {Q : Unit → Shared → Prop}
    (hkb : base.StaysIn s.heap) (hl : s.heap.FunFrames base l) (ht : TrX s.heap base e cls c2 T fl)
    (h : ∀ h', base.StaysIn h' → h'.FunFrames base l → TrX h' base e cls c2 T (fr.elim .none fun f => rawInt f) → (∀ b o, b ≠ T → s.heap.get? b = some o → h'.get? b = some o) → s.heap.UpToSlots h' → Q () { s with heap := h' }) :
    wpAny M A (setFlight (.ref e) fr) Q E s := by
  obtain ⟨oe, vs, oT, ts, a0, he, hcls, hd, h0, h1, h2, hnT, hTe, hT, hdT, h3⟩ := ht
  have hsz3 : 3 < ts.size := (Array.getElem?_eq_some_iff.mp h3).1
  have other : ∀ b, b ≠ T → (s.heap.update T (Obj.mapFields (·.setIfInBounds 3 (fr.elim Value.none fun f => rawInt f)))).get? b = s.heap.get? b :=
    fun b hb => Heap.get?_update_other _ _ (Ne.symm hb)
  have noRecord : ∀ b o, s.heap.get? b = some o → (∀ vs, o.data ≠ .fields vs) → b ≠ T := fun b o hb hnf q => by
    rw [q, hT] at hb; injection hb with hb; subst hb; exact hnf ts hdT
  unfold setFlight
  refine wpAny_bind (wpAny_field he hd h1 ?_)
  rw [if_pos (show (Value.ref T != Value.none) = true from by simp)]
  refine wpAny_setField hT hdT hsz3 (h _ (fun b o hbo => (other b fun q => by rw [q, hnT] at hbo; cases hbo).trans (hkb b o hbo))
    (hl.of_keeps fun b o hb hnf => ⟨o, (other b (noRecord b o hb hnf)).trans hb, rfl⟩) ?_ (fun b o hb hbo => (other b hb).trans hbo) fun b o hb hnf => ⟨o.slots, (other b (noRecord b o hb hnf)).trans hb⟩)
  exact ⟨oe, vs, _, _, a0, (other e (Ne.symm hTe)).trans he, hcls, hd, h0, h1, h2, hnT, hTe, Heap.get?_update_self _ hT (Obj.isFreed_of_fields (Obj.data_mapFields hdT _)), Obj.data_mapFields hdT _, by simp [hsz3]⟩

theorem note_again {base : Heap} {L e T : Addr} {cls c2 : Value} {Q : Unit → Shared → Prop} (hf : env.frame = some L) (ht : TrX s.heap base e cls c2 T (rawInt L)) (h : Q () s) :
    wpAny M A (noteFrame (.ref e) env) Q E s := wpAny_noteFrame_againW hf ht.at.choose_spec h

theorem pass_field {base : Heap} {e T : Addr} {cls c2 fl : Value} {what : String} {fr : Option Addr} {l : List Env} {Q : Unit → Shared → Prop}
    (hkb : base.StaysIn s.heap) (hl : s.heap.FunFrames base l) (ht : TrX s.heap base e cls c2 T fl)
    (h : ∀ h', base.StaysIn h' → h'.FunFrames base l → TrX h' base e cls c2 T (fr.elim .none fun f => rawInt f) → s.heap.UpToSlots h' → Q () { s with heap := h' }) :
    wpAny M A (do if (← field (.ref e) 1) == .none then unsupported what
                  setFlight (.ref e) fr) Q E s := by
  obtain ⟨oe, vs, oT, ts, a0, he, hcls, hd, h0, h1, h2, hnT, hTe, hT, hdT, h3⟩ := id ht
  refine wpAny_bind (wpAny_field he hd h1 ?_)
  rw [if_neg (show ¬ ((Value.ref T == Value.none) = true) from by simp)]
  exact set_flight hkb hl ht fun h' a b c _ d => h h' a b c d
end
end Mine
set_option maxRecDepth 100000
namespace Mine
section
variable {prog : Program} {w : World} {A : Around} {E : Value → Shared → Prop} {s : Shared} {env : Env}

/-- `raise X(..)` inside a handler: k is the exception that is being handled, itself without a context -/
theorem raise_in {cls : String} (F : ExcRaiseFacts cls) {k : Addr} {x : Expr} {pos : Pos} {Q : Flow → Shared → Prop} (hh : A.handled = some (.ref k))
    (h : wpAny (model prog w) A (eval x env) (fun v s₁ => ∃ e t ok vk, v = .ref e ∧ k ≠ e ∧ s₁.heap.get? e = some { cls := .type cls, data := .fields #[.ref t, .none, .none, .none, .bool false, .none] } ∧
      s₁.heap.get? k = some ok ∧ ok.data = .fields vk ∧ vk[2]? = some .none ∧
      ∀ h' oe vs, Heap.SameBut e s₁.heap h' → h'.get? e = some oe → oe.cls = .type cls → oe.data = .fields vs → vs[0]? = some (.ref t) → vs[1]? = some .none → vs[2]? = some (.ref k) → E (.ref e) { s₁ with heap := h' }) E s) :
    wpAny (model prog w) A (exec (.Raise (some x) none pos) env) Q E s := by
  rw [arm_exec_Raise]
  refine wpAny_bind (wpAny_standAt ?_)
  simp only [evalOpt, Option.map]
  unfold raiseStmt
  refine wpAny_bind (wpAny_bind (wpAny_mono h (fun v s₁ h₁ => ?_) fun _ _ x => x))
  refine wpAny_bind (wpAny_standAt (wpAny_pure ?_))
  obtain ⟨e, t, ok, vk, rfl, hne, he, hk, hdk, h2k, hE⟩ := h₁
  obtain ⟨hp, g, d, tk, os⟩ := s₁
  have hsub := F.isExc
  have hmeta := F.plainMeta
  repeat (first | refine wpAny_loadPart he ?_ | wp_step)
  refine raiseNew_in hh hne he rfl (by simp) hk hdk h2k fun h' hs hg => ?_
  exact hE h' _ _ hs hg rfl rfl (by simp) (by simp) (by simp)

theorem excFrom {cls msg : String} (F : ExcRaiseFacts cls) {e : Addr} {o : Obj} {vs : Array Value} {Q : Value → Shared → Prop} (he : s.heap.get? e = some o) (hc : o.cls = .type cls) (hd : o.data = .fields vs) (h : Q (.ref e) s) : wpAny (model prog w) A (excFromValue (.ref e) msg) Q E s := by
  obtain ⟨hp, g, d, tk, os⟩ := s
  have hsub := F.isExc
  obtain ⟨kc, kd, kdat, ksl⟩ := o
  obtain rfl : kc = .type cls := hc
  obtain rfl : kdat = .fields vs := hd
  unfold excFromValue
  repeat (first | exact h | refine wpAny_loadPart he ?_ | wp_step)
theorem notType {cls : String} (F : ExcRaiseFacts cls) {e : Addr} {o : Obj} {vs : Array Value} {Q : Bool → Shared → Prop} (he : s.heap.get? e = some o) (hc : o.cls = .type cls) (hd : o.data = .fields vs) (h : Q false s) : wpAny (model prog w) A (isType (.ref e)) Q E s := by
  obtain ⟨hp, g, d, tk, os⟩ := s
  obtain ⟨kc, kd, kdat, ksl⟩ := o
  obtain rfl : kc = .type cls := hc
  obtain rfl : kdat = .fields vs := hd
  repeat (first | exact h | refine wpAny_loadPart he ?_ | wp_step)
theorem raisedInst {cls : String} (F : ExcRaiseFacts cls) {e : Addr} {o : Obj} {vs : Array Value} {Q : Value → Shared → Prop} (he : s.heap.get? e = some o) (hc : o.cls = .type cls) (hd : o.data = .fields vs) (h : Q (.ref e) s) : wpAny (model prog w) A (raisedInstance (.ref e)) Q E s := by
  obtain ⟨hp, g, d, tk, os⟩ := s
  obtain ⟨kc, kd, kdat, ksl⟩ := o
  obtain rfl : kc = .type cls := hc
  obtain rfl : kdat = .fields vs := hd
  have hmeta := F.plainMeta
  unfold raisedInstance
  repeat (first | exact h | refine wpAny_loadPart he ?_ | wp_step)
/-- `raise X(..) from err` inside the handler of err -/
theorem raise_from {cls cls0 : String} (F : ExcRaiseFacts cls) (F0 : ExcRaiseFacts cls0) {k : Addr} {x c : Expr} {pos : Pos} {Q : Flow → Shared → Prop} (hh : A.handled = some (.ref k))
    (h : wpAny (model prog w) A (eval x env) (fun v s₁ => wpAny (model prog w) A (eval c env) (fun v2 s₂ => s₂ = s₁ ∧ v2 = .ref k ∧ ∃ e t ok vk, v = .ref e ∧ k ≠ e ∧ s₁.heap.get? e = some { cls := .type cls, data := .fields #[.ref t, .none, .none, .none, .bool false, .none] } ∧
      s₁.heap.get? k = some ok ∧ ok.cls = .type cls0 ∧ ok.data = .fields vk ∧ vk[2]? = some .none ∧
      ∀ h' oe vs, Heap.SameBut e s₁.heap h' → h'.get? e = some oe → oe.cls = .type cls → oe.data = .fields vs → vs[0]? = some (.ref t) → vs[1]? = some .none → vs[2]? = some (.ref k) → E (.ref e) { s₁ with heap := h' }) E s₁) E s) :
    wpAny (model prog w) A (exec (.Raise (some x) (some c) pos) env) Q E s := by
  rw [arm_exec_Raise]
  refine wpAny_bind (wpAny_standAt ?_)
  simp only [evalOpt, Option.map]
  unfold raiseStmt
  refine wpAny_bind (wpAny_bind (wpAny_mono h (fun v s₁ h₁ => ?_) fun _ _ x => x))
  refine wpAny_bind (wpAny_standAt (wpAny_pure ?_))
  refine wpAny_bind (wpAny_holding (wpAny_bind (wpAny_mono h₁ (fun v2 s₂ h₂ => ?_) fun _ _ x => x)))
  refine wpAny_bind (wpAny_standAt (wpAny_pure ?_))
  refine wpAny_bind (wpAny_pure ?_)
  obtain ⟨rfl, rfl, e, t, ok, vk, rfl, hne, he, hk, hkc, hdk, h2k, hE⟩ := h₂
  refine wpAny_bind (wpAny_holding (excFrom F he rfl rfl ?_))
  dsimp only
  rw [if_neg (by simp)]
  refine wpAny_bind (wpAny_holding (excFrom F0 hk hkc hdk ?_))
  refine wpAny_bind (step_upd (i := 3) (v := .ref k) he rfl (by simp) fun h1 hs1 hg1 => ?_)
  refine wpAny_bind (step_upd (s := { s₂ with heap := h1 }) (i := 4) (v := .bool true) hg1 rfl (by simp) fun h2 hs2 hg2 => ?_)
  refine wpAny_bind (notType (s := { s₂ with heap := h2 }) F hg2 rfl rfl ?_)
  rw [if_neg (by decide)]
  refine wpAny_bind (raisedInst (s := { s₂ with heap := h2 }) F hg2 rfl rfl ?_)
  unfold setFlight
  refine wpAny_bind (wpAny_bind (wpAny_field (s := { s₂ with heap := h2 }) hg2 rfl (x := .none) (by simp [Obj.mapFields]) ?_))
  rw [if_neg (by decide)]
  refine wpAny_pure ?_
  have hk2 : h2.get? k = some ok := (hs2.2 k hne).trans ((hs1.2 k hne).trans hk)
  refine raiseNew_in (s := { s₂ with heap := h2 }) hh hne hg2 rfl (by simp [Obj.mapFields]) hk2 hdk h2k fun h' hs hg => ?_
  exact hE h' _ _ ((hs1.trans hs2).trans hs) hg rfl rfl (by simp [Obj.mapFields]) (by simp [Obj.mapFields]) (by simp [Obj.mapFields])
end
end Mine
set_option maxRecDepth 100000
namespace Mine
section
variable {M : Model} {A A₀ : Around} {E : Value → Shared → Prop} {s s' : Shared} {base g h : Heap} {outer : List Env} {L a e : Addr} {m : Str → Option Value} {name : Str} {scope : Scope} {cd : Value} {cl : List (Str × Addr)} {news : List (Addr × Obj)}

/-- what is known of the heap while an exception flies out of a frame: G a heap that the frame's work has kept -/
structure Sky (base G g : Heap) (l : List Env) (h : Heap) : Prop where
  stays : (hideAll G (l.filterMap (·.frame))).StaysIn h
  frames : h.FunFrames (hideAll G (l.filterMap (·.frame))) l
  up : g.UpToSlots h

theorem sky_base {env : Env} (K : Below A₀ base outer g) (F : Fr g L h m) (N : News g L h news) (hf : env.frame = some L) (hk : env.scope.kind = .function) :
    base.StaysIn (hideAll h ((env :: outer).filterMap (·.frame))) ∧ (∀ q ∈ news, (hideAll h ((env :: outer).filterMap (·.frame))).get? q.1 = some q.2 ∧ base.get? q.1 = none) := by
  have K' := pushX K F hf hk
  refine ⟨fun b o q => hideAll_get _ (K'.stays b o q) fun hm => (by rw [(K'.frames.mem hm).1] at q; cases q), fun q hq => ⟨hideAll_get _ (N q hq).1 fun hm => ?_, fresh_of_stays K.stays (N q hq).2.2⟩⟩
  obtain ⟨env', he, hf'⟩ := List.mem_filterMap.mp hm
  rcases List.mem_cons.mp he with rfl | he
  · rw [hf] at hf'; exact (N q hq).2.1 (Option.some.inj hf').symm
  · obtain ⟨o, ho, _⟩ := (K.frames.mem (List.mem_filterMap.mpr ⟨env', he, hf'⟩)).2
    rw [(N q hq).2.2] at ho; cases ho

theorem sky_start {env : Env} (K : Below A₀ base outer g) (F : Fr g L h m) (hf : env.frame = some L) (hk : env.scope.kind = .function) {h' : Heap} (kp : ∀ b o, h.get? b = some o → h'.get? b = some o) : Sky base h g (env :: outer) h' := by
  have K' := pushX K F hf hk
  have hin : ∀ env' ∈ (env :: outer), ∀ b, env'.frame = some b → b ∈ (env :: outer).filterMap (·.frame) := fun env' he b hb => List.mem_filterMap.mpr ⟨env', he, hb⟩
  exact ⟨fun b o q => kp b o (of_hideAll _ q), (funFrames_hide K'.frames hin).of_keeps fun b o hb _ => ⟨o, kp b o hb, rfl⟩, (Heap.UpToSlots.of_keeps F.keep).trans (Heap.UpToSlots.of_keeps kp)⟩

theorem hide_new {l : List Addr} (hn : h.get? e = none) : (hideAll h l).get? e = none := by
  cases q : (hideAll h l).get? e with
  | none => rfl
  | some o => have := of_hideAll _ q; rw [hn] at this; cases this

/-- an exception that the frame itself has raised, leaving the frame -/
theorem leave_new {cls : Value} {oe : Obj} {vs : Array Value} {a0 : Value} {Q : Unit → Shared → Prop} (K : Below A₀ base outer g) (F : Fr g L h m) (N : News g L h news) (kp : ∀ b o, h.get? b = some o → s'.heap.get? b = some o) (hn : h.get? e = none)
    (he : s'.heap.get? e = some oe) (hc : oe.cls = cls) (hd : oe.data = .fields vs) (h0 : vs[0]? = some a0) (h1 : vs[1]? = some .none)
    (hQ : ∀ h', RaisedN base outer e cls news h' → g.UpToSlots h' → Q () { s' with heap := h' }) (hk : scope.kind = .function := by rfl) :
    wpAny M (A₀.deeper (envX name scope L a cd cl)) (leaving (envX name scope L a cd cl) (.ref e)) Q E s' := by
  obtain ⟨b1, b2⟩ := sky_base (env := envX name scope L a cd cl) K F N rfl hk
  have S := sky_start (env := envX name scope L a cd cl) K F rfl hk kp
  subst hc
  refine wpAny_leaving_firstW (a0 := a0) (Around.frames_deeper K.stack) S.frames rfl he S.stays (hide_new hn) hd h1 h0 fun h' hL => ?_
  obtain ⟨k1, ⟨_, _, k2⟩, k3, k4⟩ := hL
  exact hQ h' ⟨_, a0, b1, b2, k1, hide_new hn, k2, k3⟩ (S.up.trans k4)

/-- an exception that came out of a call, leaving this frame too -/
theorem leave_on {cls : Value} {G : Heap} {Q : Unit → Shared → Prop} (K : Below A₀ base outer g) (F : Fr g L G m) (R : RaisedN base (envX name scope L a cd cl :: outer) e cls news s'.heap) (hsm : G.UpToSlots s'.heap)
    (hQ : ∀ h', RaisedN base outer e cls news h' → g.UpToSlots h' → Q () { s' with heap := h' }) :
    wpAny M (A₀.deeper (envX name scope L a cd cl)) (leaving (envX name scope L a cd cl) (.ref e)) Q E s' := by
  obtain ⟨B, a0, hB, hl, hfl⟩ := R
  exact wpAny_leaves_onW (Around.frames_deeper K.stack) rfl hfl fun h' x1 x2 => hQ h' ⟨B, a0, hB, hl, x1⟩ ((Heap.UpToSlots.of_keeps F.keep).trans (hsm.trans x2))

/-- an exception that has been noted in the frame that it is in, about to leave it -/
def Noted (base g : Heap) (env : Env) (outer : List Env) (L : Addr) (news : List (Addr × Obj)) (e : Addr) (cls : Value) (h : Heap) : Prop :=
  ∃ G c2 T, base.StaysIn (hideAll G ((env :: outer).filterMap (·.frame))) ∧ (∀ q ∈ news, (hideAll G ((env :: outer).filterMap (·.frame))).get? q.1 = some q.2 ∧ base.get? q.1 = none) ∧ Sky base G g (env :: outer) h ∧ G.get? e = none ∧
    TrX h (hideAll G ((env :: outer).filterMap (·.frame))) e cls c2 T (rawInt L)
theorem leave_noted {cls : Value} {Q : Unit → Shared → Prop} (n : Noted base g (envX name scope L a cd cl) outer L news e cls s'.heap)
    (hQ : ∀ h', RaisedN base outer e cls news h' → g.UpToSlots h' → Q () { s' with heap := h' }) : wpAny M A (leaving (envX name scope L a cd cl) (.ref e)) Q E s' := by
  obtain ⟨G, c2, T, b1, b2, S, hn, t⟩ := n
  unfold leaving
  refine wpAny_bind (note_again rfl t ?_)
  refine set_flight S.stays S.frames t fun h' x1 x2 x3 _ x5 => ?_
  obtain ⟨_, _, x2⟩ := x2
  obtain ⟨a0, y⟩ := x3.at
  exact hQ h' ⟨_, a0, b1, b2, x1, hide_new hn, x2, y⟩ (S.up.trans x5)
theorem depart {cls : Value} (n : Noted base g (envX name scope L a cd cl) outer L news e cls s'.heap)
    (hQ : ∀ h', Noted base g (envX name scope L a cd cl) outer L news e cls h' → E (.ref e) { s' with heap := h' }) :
    cameBackBy M A (envX name scope L a cd cl) E (.ref e) s' := by
  obtain ⟨G, c2, T, b1, b2, S, hn, t⟩ := n
  exact pass_field S.stays S.frames t fun h' x1 x2 x3 x4 => hQ h' ⟨G, c2, T, b1, b2, ⟨x1, x2, S.up.trans x4⟩, hn, x3⟩
end
end Mine
set_option maxRecDepth 100000
namespace Mine
section
variable {prog : Program} {w : World} {A₀ : Around} {E EN : Value → Shared → Prop} {s s' : Shared} {base g h : Heap} {outer : List Env} {L a e : Addr} {m : Str → Option Value} {name : Str} {scope : Scope} {cd : Value} {cl : List (Str × Addr)} {news : List (Addr × Obj)}
  {KF : Frag} {p : Program} {loose : List Str} {mean : ExcName → Option Value} {mg mb : Str → Option Value} {x : Str} {X T' : String} {np : Pos} {CONT REST : Shared → Prop}

theorem land (K : Below A₀ base outer g) (F : Fr g L h m) (N : News g L h news) (hx : Heap.NewExc h s'.heap e X) (XB : KF.In base) (TB : Top p loose mean mg mb base)
    (ex : nsIn KF mainGlobals x = some none) (hv : bootBuiltins x = some (.type T')) (hn' : x ≠ "__name__")
    (k : ∀ h' g' T oe oT vs ts, oe.cls = .type X → oe.data = .fields vs → vs[2]? = some .none → oT.data = .fields ts → Fr g' L h' m → News g' L h' ((e, oe) :: (T, oT) :: news) → Below A₀ base outer g' → KF.In g' → Top p loose mean mg mb g' → g.UpToSlots g' → CONT { s' with heap := h' })
    (hk : scope.kind = .function := by rfl) (hxk : (envX name scope L a cd cl).kindOf x = some .globalImplicit := by rfl) (hdb : (x == ("__debug__" : Str)) = false := by decide) :
    wpAny (model prog w) (A₀.deeper (envX name scope L a cd cl)) (noteFrame (.ref e) (envX name scope L a cd cl)) (fun _ s₂ => wpAny (model prog w) (A₀.deeper (envX name scope L a cd cl)) (setFlight (.ref e) none) (fun _ s₃ =>
      wpAny (model prog w) ((A₀.deeper (envX name scope L a cd cl)).mark (some (.ref e))) (eval (.Name x np) (envX name scope L a cd cl)) (fun c s₁ => c = .type T' ∧ s₁.TypeIs (.ref e) X ∧
        if true = true then wpAny (model prog w) ((A₀.deeper (envX name scope L a cd cl)).mark (some (.ref e))) (setFlight (.ref e) none) (fun _ s₂ => CONT s₂) EN s₁ else REST s₁) EN s₃) E s₂) E s' := by
  obtain ⟨b1, b2⟩ := sky_base (env := envX name scope L a cd cl) K F N rfl hk
  have S := sky_start (env := envX name scope L a cd cl) K F rfl hk hx.keeps
  obtain ⟨ob, tp, he, hcls, hd⟩ := hx.there
  refine note_first (a0 := tp) (c2 := .none) (Around.frames_deeper K.stack) S.frames rfl he S.stays (hide_new hx.new) hd rfl rfl rfl fun h₁ T hT x1 x2 x3 x4 => ?_
  rw [hcls] at x3
  refine set_flight (s := { s' with heap := h₁ }) x1 x2 x3 fun h₂ y1 y2 y3 _ y5 => ?_
  have ground : ∀ h₅ : Heap, (hideAll h ((envX name scope L a cd cl :: outer).filterMap (·.frame))).StaysIn h₅ → s'.heap.UpToSlots h₅ → ∃ g', KtsTurn (outer.filterMap (·.frame)) g g' ∧ Fr g' L h₅ m ∧ Below A₀ base outer g' := fun h₅ st up =>
    kts_ground (name := name) (scope := scope) (a := a) (cd := cd) (B := hideAll h ((envX name scope L a cd cl :: outer).filterMap (·.frame))) K F (fun b o q nm => hideAll_get _ q nm) st ((Heap.UpToSlots.of_keeps hx.keeps).trans up)
  obtain ⟨g₂, T₂, F₂, K₂⟩ := ground h₂ y1 (x4.trans y5)
  have hty : Shared.TypeIs { s' with heap := h₂ } (.ref e) X := by
    obtain ⟨a0, y⟩ := y3.at
    obtain ⟨o, q1, q2⟩ := y.there
    exact ⟨o, q1, q2⟩
  refine nameX_B (s := { s' with heap := h₂ }) F₂ (XB.keeps K₂.stays) (topRead_of (TB.keeps K₂.stays)) ex hv hn' ⟨rfl, hty, ?_⟩ hk hxk hdb
  rw [if_pos rfl]
  refine set_flight (s := { s' with heap := h₂ }) y1 y2 y3 fun h₃ z1 z2 z3 _ z5 => ?_
  obtain ⟨g₃, T₃, F₃, K₃⟩ := ground h₃ z1 ((x4.trans y5).trans z5)
  obtain ⟨oe, vs, oT, ts, a0, q1, q2, q3, q4, q5, q6, q7, q8, q9, q10, q11⟩ := z3
  have gn : ∀ b, h.get? b = none → g.get? b = none := fun b q => kts_none F.keep q
  have en := gn e hx.new
  have tn := gn T (kts_none hx.keeps hT)
  have hLe : e ≠ L := fun q => by
    obtain ⟨o, es, ep, ho, hdo, _⟩ := F₃.ns
    rw [← q, q1] at ho; cases ho; rw [hdo] at q3; cases q3
  have hLT : T ≠ L := fun q => by
    obtain ⟨o, es, ep, ho, hdo, _⟩ := F₃.ns
    rw [← q, q9] at ho; cases ho; rw [hdo] at q10; cases q10
  refine k h₃ g₃ T oe oT vs ts q2 q3 q6 q10 F₃ (fun q hq => ?_) K₃ (XB.keeps K₃.stays) (TB.keeps K₃.stays) (fun b o hb _ => T₃.up hb)
  rcases List.mem_cons.mp hq with rfl | hq
  · exact ⟨q1, hLe, T₃.none_ _ en⟩
  · rcases List.mem_cons.mp hq with rfl | hq
    · exact ⟨q9, hLT, T₃.none_ _ tn⟩
    · exact ⟨z1 _ _ (b2 q hq).1, (N q hq).2.1, T₃.none_ _ (N q hq).2.2⟩

/-- `except X: raise Y(..)`: the way out -/
theorem out_none {A' : Around} {cls c2 : Value} {oe : Obj} {vs : Array Value} {a0 : Value} {hb : Heap} (hA' : A'.frames = (A₀.deeper (envX name scope L a cd cl)).frames)
    (K : Below A₀ base outer g) (F : Fr g L hb m) (N : News g L hb news) (kp : ∀ b o, hb.get? b = some o → s'.heap.get? b = some o) (hn : hb.get? e = none)
    (he : s'.heap.get? e = some oe) (hc : oe.cls = cls) (hd : oe.data = .fields vs) (h0 : vs[0]? = some a0) (h1 : vs[1]? = some .none) (h2 : vs[2]? = some c2)
    (hQ : ∀ h', Noted base g (envX name scope L a cd cl) outer L news e cls h' → E (.ref e) { s' with heap := h' }) (hk : scope.kind = .function := by rfl) :
    notedBy (model prog w) A' (envX name scope L a cd cl) (cameBackBy (model prog w) (A₀.deeper (envX name scope L a cd cl)) (envX name scope L a cd cl) E) (.ref e) s' := by
  obtain ⟨b1, b2⟩ := sky_base (env := envX name scope L a cd cl) K F N rfl hk
  have S := sky_start (env := envX name scope L a cd cl) K F rfl hk kp
  subst hc
  refine note_first (a0 := a0) (c2 := c2) (hA'.trans (Around.frames_deeper K.stack)) S.frames rfl he S.stays (hide_new hn) hd h0 h1 h2 fun h₁ T hT x1 x2 x3 x4 => ?_
  exact depart (s' := { s' with heap := h₁ }) ⟨hb, c2, T, b1, b2, ⟨x1, x2, S.up.trans x4⟩, hn, x3⟩ hQ

theorem frames_on {h h' B : Heap} (k : ∀ b o, h.get? b = some o → (∀ vs, o.data ≠ .fields vs) → ∃ o', h'.get? b = some o' ∧ ∀ vs, o'.data ≠ .fields vs) : ∀ {l : List Env}, h.FunFrames B l → h'.FunFrames B l
  | [], _ => trivial
  | _ :: _, ⟨hk, ⟨L, o, hf, hn, ho, hd⟩, hr⟩ => let ⟨o', ho', hd'⟩ := k L o ho hd; ⟨hk, ⟨L, o', hf, hn, ho', hd'⟩, frames_on k hr⟩

/-- `except X as n: raise Y(..) from n`: the way out -/
theorem out_as {A' : Around} {cls c2 : Value} {oe : Obj} {vs : Array Value} {a0 : Value} {hb : Heap} {n : Str} {pos : Pos} (hA' : A'.frames = (A₀.deeper (envX name scope L a cd cl)).frames)
    (K : Below A₀ base outer g) (F : Fr g L hb m) (N : News g L hb news) (kp : ∀ b o, hb.get? b = some o → s'.heap.get? b = some o) (hn : hb.get? e = none)
    (he : s'.heap.get? e = some oe) (hc : oe.cls = cls) (hd : oe.data = .fields vs) (h0 : vs[0]? = some a0) (h1 : vs[1]? = some .none) (h2 : vs[2]? = some c2)
    (hQ : ∀ h' tk, Noted base g (envX name scope L a cd cl) outer L news e cls h' → E (.ref e) { s' with heap := h', toks := tk }) (hk : scope.kind = .function := by rfl) (hlo : (envX name scope L a cd cl).kindOf n = some .local := by rfl) :
    AsSuiteRaised (model prog w) A' (envX name scope L a cd cl) n pos (notedBy (model prog w) A' (envX name scope L a cd cl) (cameBackBy (model prog w) (A₀.deeper (envX name scope L a cd cl)) (envX name scope L a cd cl) E)) (.ref e) s' := by
  obtain ⟨b1, b2⟩ := sky_base (env := envX name scope L a cd cl) K F N rfl hk
  have S := sky_start (env := envX name scope L a cd cl) K F rfl hk kp
  subst hc
  refine note_first (a0 := a0) (c2 := c2) (hA'.trans (Around.frames_deeper K.stack)) S.frames rfl he S.stays (hide_new hn) hd h0 h1 h2 fun h₁ T hT x1 x2 x3 x4 => ?_
  have U₁ := S.up.trans x4
  have hL1 : h₁.Ns L m := x4.ns ((F.keeps kp).ns)
  refine wpAny_nameGoes (s := { s' with heap := h₁ }) hlo hL1 (by show (scope.kind == .class || (scope.kind == .module && L != mainGlobals)) = false; rw [hk]; rfl) fun h₂ m₂ hn₂ hs₂ => ?_
  have kL : ∀ b o, b ≠ L → h₁.get? b = some o → h₂.get? b = some o := fun b o hb q => (hs₂.2 b hb).trans q
  have hLB : (hideAll h₁ [L]).get? L = none := hideAll_none _ (List.mem_singleton.mpr rfl)
  have gL : g.get? L = none := kts_self F
  have mL : L ∈ ((envX name scope L a cd cl :: outer).filterMap (·.frame)) := List.mem_filterMap.mpr ⟨_, .head _, rfl⟩
  have y1 : (hideAll hb ((envX name scope L a cd cl :: outer).filterMap (·.frame))).StaysIn h₂ := fun b o q => kL b o (fun z => by rw [z, hideAll_none _ mL] at q; cases q) (x1 b o q)
  have y2 : h₂.FunFrames (hideAll hb ((envX name scope L a cd cl :: outer).filterMap (·.frame))) (envX name scope L a cd cl :: outer) := by
    obtain ⟨o₂, es, ep, ho₂, hd₂, _⟩ := hn₂
    refine frames_on (fun b o q nf => ?_) x2
    by_cases z : b = L
    · subst z; exact ⟨o₂, ho₂, fun vs q => by rw [hd₂] at q; cases q⟩
    · exact ⟨o, kL b o z q, nf⟩
  have y3 := x3.keeps (h' := h₂) fun b o q ⟨vs, hf⟩ => kL b o (fun z => by
    obtain ⟨o', es, ep, ho', hd', _⟩ := hL1
    rw [z, ho'] at q; cases q; rw [hd'] at hf; cases hf) q
  have U₂ : g.UpToSlots h₂ := fun b o q nf => by
    obtain ⟨sl, q'⟩ := U₁ b o q nf
    exact ⟨sl, kL b _ (fun z => by rw [z, gL] at q; cases q) q'⟩
  unfold PySem.passOn
  obtain ⟨oe', vs', oT', ts', a0', p1, p2, p3, p4, p5, p6⟩ := id y3
  refine wpAny_bind (wpAny_field (s := { s' with heap := h₂, toks := s'.toks + 1 }) p1 p3 p5 ?_)
  rw [if_neg (show ¬ ((Value.ref T == Value.none) = true) from by simp)]
  refine wpAny_bind (set_flight (s := { s' with heap := h₂, toks := s'.toks + 1 }) y1 y2 y3 fun h₃ z1 z2 z3 _ z5 => wpAny_throw ?_)
  refine note_again (s := { s' with heap := h₃, toks := s'.toks + 1 }) rfl z3 ?_
  exact depart (s' := { s' with heap := h₃, toks := s'.toks + 1 }) ⟨hb, c2, T, b1, b2, ⟨z1, z2, U₂.trans z5⟩, hn, z3⟩ fun h' q => hQ h' _ q
end
end Mine
set_option maxRecDepth 100000
namespace Mine
section
variable {prog : Program} {w : World} {A₀ : Around} {E : Value → Shared → Prop} {s' : Shared} {base g h : Heap} {outer : List Env} {L a e : Addr} {m : Str → Option Value} {name : Str} {scope : Scope} {cd : Value} {cl : List (Str × Addr)} {news : List (Addr × Obj)}
  {KF : Frag} {p : Program} {loose : List Str} {mean : ExcName → Option Value} {mg mb : Str → Option Value} {x n : Str} {X T' : String} {np pos : Pos} {b₀ : Stmt} {suite : List Stmt} {rest : List ExceptHandler} {Q : Flow → Shared → Prop}

/-- `except x as n:` meets an exception that the frame's own work has raised -/
theorem catch_as (K : Below A₀ base outer g) (F : Fr g L h m) (N : News g L h news) (hx : Heap.NewExc h s'.heap e X) (XB : KF.In base) (TB : Top p loose mean mg mb base)
    (ex : nsIn KF mainGlobals x = some none) (hv : bootBuiltins x = some (.type T')) (hn' : x ≠ "__name__")
    (hexc : isSubtype (.type T') (.type "BaseException") = pure true) (hnt : isSubtype (.type ((Manifest.find? T').elim "type" fun x => x.metatype)) (.type "tuple") = pure false) (hsub : isSubtype (.type X) (.type T') = pure true)
    (k : ∀ h' g' tk T oe oT vs ts, oe.cls = .type X → oe.data = .fields vs → vs[2]? = some .none → oT.data = .fields ts → Fr g' L h' (fun y => if y = n then some (.ref e) else m y) → News g' L h' ((e, oe) :: (T, oT) :: news) → Below A₀ base outer g' → KF.In g' → Top p loose mean mg mb g' → g.UpToSlots g' →
      wpAny (model prog w) ((A₀.deeper (envX name scope L a cd cl)).mark (some (.ref e))) (execs (b₀ :: suite) (envX name scope L a cd cl))
        (fun f s₄ => wpAny (model prog w) (A₀.deeper (envX name scope L a cd cl)) (do bindName (envX name scope L a cd cl) n .none; unbindBehindTheSuite (envX name scope L a cd cl) n pos) (fun _ s₅ => Q f s₅) E s₄)
        (AsSuiteRaised (model prog w) ((A₀.deeper (envX name scope L a cd cl)).mark (some (.ref e))) (envX name scope L a cd cl) n pos (notedBy (model prog w) ((A₀.deeper (envX name scope L a cd cl)).mark (some (.ref e))) (envX name scope L a cd cl) (cameBackBy (model prog w) (A₀.deeper (envX name scope L a cd cl)) (envX name scope L a cd cl) E))) { s' with heap := h', toks := tk })
    (hk : scope.kind = .function := by rfl) (hxk : (envX name scope L a cd cl).kindOf x = some .globalImplicit := by rfl) (hlo : (envX name scope L a cd cl).kindOf n = some .local := by rfl) (hdb : (x == ("__debug__" : Str)) = false := by decide) :
    wpAny (model prog w) (A₀.deeper (envX name scope L a cd cl)) (noteFrame (.ref e) (envX name scope L a cd cl)) (fun _ s₂ => wpAny (model prog w) (A₀.deeper (envX name scope L a cd cl)) (setFlight (.ref e) none) (fun _ s₃ =>
      wpAny (model prog w) (A₀.deeper (envX name scope L a cd cl)) (handleBy (.ref e) (envX name scope L a cd cl) (.ExceptHandler (some (.Name x np)) (some n) (b₀ :: suite) pos :: rest)) Q E s₃) E s₂) E s' := by
  refine wpAny_mono (land (np := np) (CONT := fun s₂ => wpAny (model prog w) ((A₀.deeper (envX name scope L a cd cl)).mark (some (.ref e))) (storeName (envX name scope L a cd cl) n (.ref e)) (fun _ s₃ => _) _ s₂) (REST := fun s₁ => wpAny (model prog w) (A₀.deeper (envX name scope L a cd cl)) (handleBy (.ref e) (envX name scope L a cd cl) rest) Q E s₁) K F N hx XB TB ex hv hn' (fun h' g' T oe oT vs ts q1 q2 q3 q4 F' N' K' X' T' U' => ?_) hk hxk hdb) (fun _ s₂ h₂ => wpAny_mono h₂ (fun _ s₃ h₃ => wpAny_handleBy_builtin_as (b := true) hexc hnt hsub h₃) fun _ _ y => y) fun _ _ y => y
  refine wpAny_storeName_local (s := { s' with heap := h' }) hlo F'.ns (fun h₂ hn hs => ?_) (by show (scope.kind == .class || (scope.kind == .module && L != mainGlobals)) = false; rw [hk]; rfl)
  exact k h₂ g' _ T oe oT vs ts q1 q2 q3 q4 (F'.set hn hs) (N'.set hs) K' X' T' U'

/-- `except x:` meets an exception that the frame's own work has raised -/
theorem catch_none (K : Below A₀ base outer g) (F : Fr g L h m) (N : News g L h news) (hx : Heap.NewExc h s'.heap e X) (XB : KF.In base) (TB : Top p loose mean mg mb base)
    (ex : nsIn KF mainGlobals x = some none) (hv : bootBuiltins x = some (.type T')) (hn' : x ≠ "__name__")
    (hexc : isSubtype (.type T') (.type "BaseException") = pure true) (hnt : isSubtype (.type ((Manifest.find? T').elim "type" fun x => x.metatype)) (.type "tuple") = pure false) (hsub : isSubtype (.type X) (.type T') = pure true)
    (k : ∀ h' g' T oe oT vs ts, oe.cls = .type X → oe.data = .fields vs → vs[2]? = some .none → oT.data = .fields ts → Fr g' L h' m → News g' L h' ((e, oe) :: (T, oT) :: news) → Below A₀ base outer g' → KF.In g' → Top p loose mean mg mb g' → g.UpToSlots g' →
      wpAny (model prog w) ((A₀.deeper (envX name scope L a cd cl)).mark (some (.ref e))) (execs (b₀ :: suite) (envX name scope L a cd cl)) Q
        (notedBy (model prog w) ((A₀.deeper (envX name scope L a cd cl)).mark (some (.ref e))) (envX name scope L a cd cl) (cameBackBy (model prog w) (A₀.deeper (envX name scope L a cd cl)) (envX name scope L a cd cl) E)) { s' with heap := h' })
    (hk : scope.kind = .function := by rfl) (hxk : (envX name scope L a cd cl).kindOf x = some .globalImplicit := by rfl) (hdb : (x == ("__debug__" : Str)) = false := by decide) :
    wpAny (model prog w) (A₀.deeper (envX name scope L a cd cl)) (noteFrame (.ref e) (envX name scope L a cd cl)) (fun _ s₂ => wpAny (model prog w) (A₀.deeper (envX name scope L a cd cl)) (setFlight (.ref e) none) (fun _ s₃ =>
      wpAny (model prog w) (A₀.deeper (envX name scope L a cd cl)) (handleBy (.ref e) (envX name scope L a cd cl) (.ExceptHandler (some (.Name x np)) none (b₀ :: suite) pos :: rest)) Q E s₃) E s₂) E s' :=
  wpAny_mono (land (np := np) (REST := fun s₁ => wpAny (model prog w) (A₀.deeper (envX name scope L a cd cl)) (handleBy (.ref e) (envX name scope L a cd cl) rest) Q E s₁) K F N hx XB TB ex hv hn' (fun h' g' T oe oT vs ts q1 q2 q3 q4 F' N' K' X' T' U' => k h' g' T oe oT vs ts q1 q2 q3 q4 F' N' K' X' T' U') hk hxk hdb) (fun _ s₂ h₂ => wpAny_mono h₂ (fun _ s₃ h₃ => wpAny_handleBy_builtin (b := true) hexc hnt hsub h₃) fun _ _ y => y) fun _ _ y => y
end
section
variable {prog : Program} {w : World} {A₀ : Around} {E EE : Value → Shared → Prop} {s : Shared} {base g : Heap} {outer : List Env} {L a e T : Addr} {m : Str → Option Value} {name : Str} {scope : Scope} {cd : Value} {cl : List (Str × Addr)} {news : List (Addr × Obj)}
  {KF : Frag} {p : Program} {loose : List Str} {mean : ExcName → Option Value} {mg mb : Str → Option Value} {x n : Str} {X X2 nid iid : String} {oe oT : Obj} {vs : Array Value} {np p1 p2 p3 p4 pos : Pos} {arg : Expr} {Q : Flow → Shared → Prop} {R : Value → Shared → Prop}

/-- what the argument of an exception raised in a handler leaves behind -/
def ArgQ (base g : Heap) (env : Env) (outer : List Env) (L e : Addr) (l2 : List (Addr × Obj)) (news : List (Addr × Obj)) (X2 : String) (n : Str) (R : Value → Shared → Prop) (s₁ : Shared) : Prop :=
  ∃ m', m' n = some (.ref e) ∧ Fr g L s₁.heap m' ∧ News g L s₁.heap l2 ∧ ∀ h' tk e2, Noted base g env outer L news e2 (.type X2) h' → R (.ref e2) { s₁ with heap := h', toks := tk }
def ArgQ0 (base g : Heap) (env : Env) (outer : List Env) (L : Addr) (l2 : List (Addr × Obj)) (news : List (Addr × Obj)) (X2 : String) (R : Value → Shared → Prop) (s₁ : Shared) : Prop :=
  ∃ m', Fr g L s₁.heap m' ∧ News g L s₁.heap l2 ∧ ∀ h' e2, Noted base g env outer L news e2 (.type X2) h' → R (.ref e2) { s₁ with heap := h' }
theorem argQ_mk {env : Env} (F : Fr g L s.heap m) (hm : m n = some (.ref e)) {l2 : List (Addr × Obj)} (N : News g L s.heap l2) (h : ∀ h' tk e2, Noted base g env outer L news e2 (.type X2) h' → R (.ref e2) { s with heap := h', toks := tk }) : ArgQ base g env outer L e l2 news X2 n R s := ⟨m, hm, F, N, h⟩
theorem argQ0_mk {env : Env} (F : Fr g L s.heap m) {l2 : List (Addr × Obj)} (N : News g L s.heap l2) (h : ∀ h' e2, Noted base g env outer L news e2 (.type X2) h' → R (.ref e2) { s with heap := h' }) : ArgQ0 base g env outer L l2 news X2 R s := ⟨m, F, N, h⟩

/-- `raise X2(arg) from n`, all that stands in the handler -/
theorem suite_from (FC : ExcCallFacts X2 nid iid) (FR : ExcRaiseFacts X2) (F0 : ExcRaiseFacts X) (K : Below A₀ base outer g) (F : Fr g L s.heap m) (_N : News g L s.heap ((e, oe) :: (T, oT) :: news)) (hn : m n = some (.ref e)) (hc : oe.cls = .type X) (hd : oe.data = .fields vs) (h2 : vs[2]? = some .none)
    (X₀ : KF.In g) (TT : Top p loose mean mg mb g) (ex : nsIn KF mainGlobals x = some none) (hv : bootBuiltins x = some (.type X2)) (hn' : x ≠ "__name__")
    (h : wpAny (model prog w) ((A₀.deeper (envX name scope L a cd cl)).mark (some (.ref e))) (eval arg (envX name scope L a cd cl)) (fun _ s₁ => ArgQ base g (envX name scope L a cd cl) outer L e ((e, oe) :: (T, oT) :: news) news X2 n E s₁)
      (AsSuiteRaised (model prog w) ((A₀.deeper (envX name scope L a cd cl)).mark (some (.ref e))) (envX name scope L a cd cl) n pos (notedBy (model prog w) ((A₀.deeper (envX name scope L a cd cl)).mark (some (.ref e))) (envX name scope L a cd cl) (cameBackBy (model prog w) (A₀.deeper (envX name scope L a cd cl)) (envX name scope L a cd cl) E))) s)
    (hse : starEach [arg] (envX name scope L a cd cl) = [(false, eval arg (envX name scope L a cd cl))] := by rfl)
    (hk : scope.kind = .function := by rfl) (hxk : (envX name scope L a cd cl).kindOf x = some .globalImplicit := by rfl) (hlo : (envX name scope L a cd cl).kindOf n = some .local := by rfl) (hdb : (x == ("__debug__" : Str)) = false := by decide) (hdn : (n == ("__debug__" : Str)) = false := by decide) :
    wpAny (model prog w) ((A₀.deeper (envX name scope L a cd cl)).mark (some (.ref e))) (execs [.Raise (some (.Call (.Name x p1) [arg] [] p2)) (some (.Name n p3)) p4] (envX name scope L a cd cl)) Q
      (AsSuiteRaised (model prog w) ((A₀.deeper (envX name scope L a cd cl)).mark (some (.ref e))) (envX name scope L a cd cl) n pos (notedBy (model prog w) ((A₀.deeper (envX name scope L a cd cl)).mark (some (.ref e))) (envX name scope L a cd cl) (cameBackBy (model prog w) (A₀.deeper (envX name scope L a cd cl)) (envX name scope L a cd cl) E))) s := by
  refine wpAny_execs_cons (raise_from FR F0 rfl (wpAny_Call_ofName (nameX_B F X₀ (topRead_of TT) ex hv hn' ?_ hk hxk hdb)))
  refine callWith_excType (by rw [hse]; rfl) ?_
  rw [hse]
  refine Calls.evalArgs_plain (Calls.spliced_cons (wpAny_mono h (fun v s₁ h₁ => Calls.spliced_nil ?_) fun _ _ y => y))
  obtain ⟨m', hm', F₁, N₁, hQ⟩ := h₁
  obtain ⟨hp, gs, d, tk, os⟩ := s₁
  refine wpAny_call_exc FC (hrest := by show 1 ≤ sizeLine; rw [sizeLine_eq]; decide) fun h₂ e2 hm => ?_
  obtain ⟨t, ht, _, _⟩ := hm.there
  have F₂ := F₁.keeps hm.keeps
  have he1 := hm.keeps _ _ (N₁ _ (.head _)).1
  have hne : e ≠ e2 := fun q => by
    have := (N₁ _ (.head _)).1
    rw [q] at this
    rw [hm.new] at this; cases this
  refine nameX_L F₂ hm' ⟨rfl, rfl, e2, t, oe, vs, rfl, hne, ht, he1, hc, hd, h2, fun h' o2 v2 hs he2 hc2 hd2 a0 a1 a2 => ?_⟩ hk hlo hdn
  have kp : ∀ b o, hp.get? b = some o → h'.get? b = some o := fun b o q => (hs.2 b (fun z => by rw [z, hm.new] at q; cases q)).trans (hm.keeps b o q)
  exact out_as rfl K F₁ (fun q hq => N₁ q (List.mem_cons_of_mem _ (List.mem_cons_of_mem _ hq))) kp hm.new he2 hc2 hd2 a0 a1 a2 (fun h'' tk'' q => hQ h'' tk'' e2 q) hk hlo

/-- `raise X2(arg)`, all that stands in the handler -/
theorem suite_none (FC : ExcCallFacts X2 nid iid) (FR : ExcRaiseFacts X2) (K : Below A₀ base outer g) (F : Fr g L s.heap m) (_N : News g L s.heap ((e, oe) :: (T, oT) :: news)) (hd : oe.data = .fields vs) (h2 : vs[2]? = some .none)
    (X₀ : KF.In g) (TT : Top p loose mean mg mb g) (ex : nsIn KF mainGlobals x = some none) (hv : bootBuiltins x = some (.type X2)) (hn' : x ≠ "__name__")
    (h : wpAny (model prog w) ((A₀.deeper (envX name scope L a cd cl)).mark (some (.ref e))) (eval arg (envX name scope L a cd cl)) (fun _ s₁ => ArgQ0 base g (envX name scope L a cd cl) outer L ((e, oe) :: (T, oT) :: news) news X2 E s₁)
      (notedBy (model prog w) ((A₀.deeper (envX name scope L a cd cl)).mark (some (.ref e))) (envX name scope L a cd cl) (cameBackBy (model prog w) (A₀.deeper (envX name scope L a cd cl)) (envX name scope L a cd cl) E)) s)
    (hse : starEach [arg] (envX name scope L a cd cl) = [(false, eval arg (envX name scope L a cd cl))] := by rfl)
    (hk : scope.kind = .function := by rfl) (hxk : (envX name scope L a cd cl).kindOf x = some .globalImplicit := by rfl) (hdb : (x == ("__debug__" : Str)) = false := by decide) :
    wpAny (model prog w) ((A₀.deeper (envX name scope L a cd cl)).mark (some (.ref e))) (execs [.Raise (some (.Call (.Name x p1) [arg] [] p2)) none p4] (envX name scope L a cd cl)) Q
      (notedBy (model prog w) ((A₀.deeper (envX name scope L a cd cl)).mark (some (.ref e))) (envX name scope L a cd cl) (cameBackBy (model prog w) (A₀.deeper (envX name scope L a cd cl)) (envX name scope L a cd cl) E)) s := by
  refine wpAny_execs_cons (raise_in FR rfl (wpAny_Call_ofName (nameX_B F X₀ (topRead_of TT) ex hv hn' ?_ hk hxk hdb)))
  refine callWith_excType (by rw [hse]; rfl) ?_
  rw [hse]
  refine Calls.evalArgs_plain (Calls.spliced_cons (wpAny_mono h (fun v s₁ h₁ => Calls.spliced_nil ?_) fun _ _ y => y))
  obtain ⟨m', F₁, N₁, hQ⟩ := h₁
  obtain ⟨hp, gs, d, tk, os⟩ := s₁
  refine wpAny_call_exc FC (hrest := by show 1 ≤ sizeLine; rw [sizeLine_eq]; decide) fun h₂ e2 hm => ?_
  obtain ⟨t, ht, _, _⟩ := hm.there
  have he1 := hm.keeps _ _ (N₁ _ (.head _)).1
  have hne : e ≠ e2 := fun q => by
    have := (N₁ _ (.head _)).1
    rw [q] at this
    rw [hm.new] at this; cases this
  refine ⟨e2, t, oe, vs, rfl, hne, ht, he1, hd, h2, fun h' o2 v2 hs he2 hc2 hd2 a0 a1 a2 => ?_⟩
  have kp : ∀ b o, hp.get? b = some o → h'.get? b = some o := fun b o q => (hs.2 b (fun z => by rw [z, hm.new] at q; cases q)).trans (hm.keeps b o q)
  exact out_none rfl K F₁ (fun q hq => N₁ q (List.mem_cons_of_mem _ (List.mem_cons_of_mem _ hq))) kp hm.new he2 hc2 hd2 a0 a1 a2 (fun h'' q => hQ h'' e2 q) hk
end
end Mine
set_option maxRecDepth 100000
namespace Mine
open PySem.Builtin PySem.Builtin.Str
section
variable {prog : Program} {w : World} {A : Around} {E : Value → Shared → Prop} {s : Shared}
theorem field_man {id : String} {a : Array Value} {byName : PySem.Str → Sem Value} {i c : Nat} {v : Value} {num : Numbering} {Q : Value × Numbering → Shared → Prop} (hk : fieldKey [c] = .index i) (hs : [c].span (fun c => c != 46 && c != 91) = ([c], []))
    (hn : num = .unset ∨ num = .manual) (ha : a[i]? = some v) (h : Q (v, .manual) s) : wpAny (model prog w) A (fieldObject id (some a) byName [c] num) Q E s := by
  unfold fieldObject
  rw [hs]
  dsimp only
  rw [hk]
  dsimp only
  refine wpAny_bind (wpAny_pure ?_)
  rcases hn with rfl | rfl
  all_goals
    refine wpAny_bind (wpAny_pure ?_)
    simp only [ha, pure_bind]
    rw [KPc.range_list]
    exact wpAny_bind (wpAny_pure (wpAny_pure h))
set_option maxHeartbeats 4000000 in
theorem fmt_ha {k : PySem.Str} {t u : Tok} {Q : Value → Shared → Prop} (hk : k.length ≤ 100) (h : ∀ T t' n, Q (.str T t') { s with toks := n }) :
    wpAny (model prog w) A (call (.builtin "str.format") [.str (PySem.Str.ofString "'{0}' is not a valid Haab' month") t, .str k u]) Q E s := by
  refine' KFm.call_k ?kfmF ?kfmg ?kfmm ?_
  case kfmF => kfm_eq
  case kfmg => kfm_args
  case kfmm =>
    apply KPc.meets_of
    intro _ _ _ _ _ _ _
    unfold Builtin.«str.format»
    refine wpAny_bind (wpAny_of_eq (a := (_, _, _)) rfl ?_)
    refine wpAny_bind ?_
    unfold Builtin.Str.buildString
    refine wpAny_bind ?_
    rw [KPc.range_list]
    refine KFm.start ?_
    intro _ _
    refine KPc.turn ?_; kpc_if
    kpc_check
    refine wpAny_bind (field_man (i := 0) (by rfl) (by rfl) (by first | exact Or.inl rfl | exact Or.inr rfl) (by rfl) ?_)
    refine wpAny_bind (wpAny_holding (wpAny_of_eq (a := _) rfl ?_))
    kpc_if
    refine wpAny_bind (wpAny_pure ?_)
    kfm_val
    refine wpAny_bind (wpAny_of_eq (a := some _) rfl ?_)
    refine wpAny_pure ?_
    refine KFm.after_field (K := 100) (by kpc_g) (by kpc_text) (by kpc_obj) hk (by kpc_obj) (by kfm_cat2) (by kfm_rest) ?_
    intro _ _
    refine KPc.turn ?_; kpc_if
    kpc_check
    kfm_lit
    refine KPc.turn ?_; kpc_if
    kfm_close
  intro _ _
  exact h _ _ _
set_option maxHeartbeats 4000000 in
theorem fmt_tz {k : PySem.Str} {t u : Tok} {Q : Value → Shared → Prop} (hk : k.length ≤ 100) (h : ∀ T t' n, Q (.str T t') { s with toks := n }) :
    wpAny (model prog w) A (call (.builtin "str.format") [.str (PySem.Str.ofString "'{0}' is not a valid Tzolk'in day name") t, .str k u]) Q E s := by
  refine' KFm.call_k ?kfmF ?kfmg ?kfmm ?_
  case kfmF => kfm_eq
  case kfmg => kfm_args
  case kfmm =>
    apply KPc.meets_of
    intro _ _ _ _ _ _ _
    unfold Builtin.«str.format»
    refine wpAny_bind (wpAny_of_eq (a := (_, _, _)) rfl ?_)
    refine wpAny_bind ?_
    unfold Builtin.Str.buildString
    refine wpAny_bind ?_
    rw [KPc.range_list]
    refine KFm.start ?_
    intro _ _
    refine KPc.turn ?_; kpc_if
    kpc_check
    refine wpAny_bind (field_man (i := 0) (by rfl) (by rfl) (by first | exact Or.inl rfl | exact Or.inr rfl) (by rfl) ?_)
    refine wpAny_bind (wpAny_holding (wpAny_of_eq (a := _) rfl ?_))
    kpc_if
    refine wpAny_bind (wpAny_pure ?_)
    kfm_val
    refine wpAny_bind (wpAny_of_eq (a := some _) rfl ?_)
    refine wpAny_pure ?_
    refine KFm.after_field (K := 100) (by kpc_g) (by kpc_text) (by kpc_obj) hk (by kpc_obj) (by kfm_cat2) (by kfm_rest) ?_
    intro _ _
    refine KPc.turn ?_; kpc_if
    kpc_check
    kfm_lit
    refine KPc.turn ?_; kpc_if
    kfm_close
  intro _ _
  exact h _ _ _
theorem args_5 (a b c d e : Value) : argsOk "str.format" ⟨[a, b, c, d, e], []⟩ := by
  unfold argsOk; rw [signature?_of (id := "str.format") (n := ['t', 'a', 'm', 'r', 'o', 'f']) (o := ['r', 't', 's']) (by kernel_rfl) F.owner_str]; kernel_rfl
set_option maxHeartbeats 4000000 in
theorem meets_lc {a b : Int} {k l : PySem.Str} {t u1 u2 u3 u4 : Tok} (ha : 0 ≤ a) (ha' : a < 100) (hb : 0 ≤ b) (hb' : b < 100) (hk : k.length ≤ 100) (hl : l.length ≤ 100) :
    ∃ X', PySem.Str.ofString "{0} {1} {2} {3}" = X' ∧ Meets (Builtin.«str.format» ⟨[.str X' t, .int a u1, .str k u2, .int b u3, .str l u4], []⟩) (fun _ R s => ∀ t' k', R (.ok (.ret (.str (((PySem.Str.ofString (toString a) ++ PySem.Str.ofString " ") ++ k ++ PySem.Str.ofString " ") ++ PySem.Str.ofString (toString b) ++ PySem.Str.ofString " " ++ l) t'))) { s with toks := k' }) := by
  have len : ∀ n : Int, 0 ≤ n → n < 100 → (PySem.Str.ofString (toString n)).length ≤ 100 := by
    intro n h1 h2
    have : ∀ n : Fin 100, (PySem.Str.ofString (toString (n.val : Int))).length ≤ 100 := by decide +kernel
    have e := this ⟨n.toNat, by omega⟩
    rwa [show ((n.toNat : Nat) : Int) = n by omega] at e
  have lg : ∀ n : Int, 0 ≤ n → n < 100 → n.natAbs.log2 < 1920 := by
    intro n h1 h2
    have : n.natAbs.log2 < 7 := Nat.lt_of_not_le fun hc => by
      have := (Nat.le_log2 (by intro e; rw [e] at hc; simp at hc)).mp hc
      omega
    omega
  refine' ⟨⟨#[123, 48, 125, 32, 123, 49, 125, 32, 123, 50, 125, 32, 123, 51, 125]⟩, ?kfmF, ?kfmm⟩
  case kfmF => kernel_rfl
  case kfmm =>
    apply KPc.meets_of
    intro _ _ _ _ _ _ _
    unfold Builtin.«str.format»
    refine wpAny_bind (wpAny_of_eq (a := (_, _, _)) rfl ?_)
    refine wpAny_bind ?_
    unfold Builtin.Str.buildString
    refine wpAny_bind ?_
    rw [KPc.range_list]
    refine KFm.start ?_
    intro _ _
    refine KPc.turn ?_; kpc_if
    kpc_check
    refine wpAny_bind (field_man (i := 0) (by rfl) (by rfl) (by first | exact Or.inl rfl | exact Or.inr rfl) (by rfl) ?_)
    refine wpAny_bind (wpAny_holding (wpAny_of_eq (a := _) rfl ?_))
    kpc_if
    refine wpAny_bind (wpAny_pure ?_)
    refine wpAny_bind (wpAny_holding (KFm.formatOf_int (lg _ ha ha') ?_)); intro _ _
    refine wpAny_bind (wpAny_of_eq (a := some _) rfl ?_)
    refine wpAny_pure ?_
    refine KFm.after_field (K := 100) (by kpc_g) (by kpc_text) (by kpc_obj) (len _ ha ha') (by kpc_obj) (by kfm_cat2) (by kfm_rest) ?_
    intro _ _
    refine KPc.turn ?_; kpc_if
    kpc_check
    refine wpAny_bind (field_man (i := 1) (by rfl) (by rfl) (by first | exact Or.inl rfl | exact Or.inr rfl) (by rfl) ?_)
    refine wpAny_bind (wpAny_holding (wpAny_of_eq (a := _) rfl ?_))
    kpc_if
    refine wpAny_bind (wpAny_pure ?_)
    kfm_val
    refine wpAny_bind (wpAny_of_eq (a := some _) rfl ?_)
    refine wpAny_pure ?_
    refine KFm.after_field (K := 100) (by kpc_g) (by kpc_text) (by kpc_obj) hk (by kpc_obj) (by kfm_cat2) (by kfm_rest) ?_
    intro _ _
    refine KPc.turn ?_; kpc_if
    kpc_check
    refine wpAny_bind (field_man (i := 2) (by rfl) (by rfl) (by first | exact Or.inl rfl | exact Or.inr rfl) (by rfl) ?_)
    refine wpAny_bind (wpAny_holding (wpAny_of_eq (a := _) rfl ?_))
    kpc_if
    refine wpAny_bind (wpAny_pure ?_)
    refine wpAny_bind (wpAny_holding (KFm.formatOf_int (lg _ hb hb') ?_)); intro _ _
    refine wpAny_bind (wpAny_of_eq (a := some _) rfl ?_)
    refine wpAny_pure ?_
    refine KFm.after_field (K := 100) (by kpc_g) (by kpc_text) (by kpc_obj) (len _ hb hb') (by kpc_obj) (by kfm_cat2) (by kfm_rest) ?_
    intro _ _
    refine KPc.turn ?_; kpc_if
    kpc_check
    refine wpAny_bind (field_man (i := 3) (by rfl) (by rfl) (by first | exact Or.inl rfl | exact Or.inr rfl) (by rfl) ?_)
    refine wpAny_bind (wpAny_holding (wpAny_of_eq (a := _) rfl ?_))
    kpc_if
    refine wpAny_bind (wpAny_pure ?_)
    kfm_val
    refine wpAny_bind (wpAny_of_eq (a := some _) rfl ?_)
    refine wpAny_pure ?_
    refine KFm.after_field (K := 100) (by kpc_g) (by kpc_text) (by kpc_obj) hl (by kpc_obj) (by kfm_cat2) (by kfm_rest) ?_
    intro _ _
    refine KPc.turn ?_; kpc_if
    kfm_close
theorem lk_str_format : typeLookup (.type "str") "format" = pure (some (.builtin "str.format")) := by rw [typeLookup_type, builtinLookup_eq_fast]; kernel_rfl
theorem lk_md_get : typeLookup (.type "method_descriptor") "__get__" = pure (some (.builtin "method_descriptor.__get__")) := by rw [typeLookup_type, builtinLookup_eq_fast]; kernel_rfl
theorem lk_md_set : typeLookup (.type "method_descriptor") "__set__" = pure none := by rw [typeLookup_type, builtinLookup_eq_fast]; kernel_rfl
theorem lk_md_del : typeLookup (.type "method_descriptor") "__delete__" = pure none := by rw [typeLookup_type, builtinLookup_eq_fast]; kernel_rfl
theorem ty_fmt : typeOf (.builtin "str.format") = pure (.type "method_descriptor") := by kernel_rfl
theorem slot_md_get : Slot "method_descriptor" "__get__" "method_descriptor.__get__" :=
  .of (owner := "method_descriptor") (n := "__get__") (by rw [typeLookup_type, builtinLookup_eq_fast]; kernel_rfl) (by decide +kernel) (by decide +kernel) (by decide +kernel)
    (by first | exact .inl (by decide +kernel) | exact .inr (by decide +kernel)) (by rw [isSubtype_type]; kernel_rfl)
theorem entry_md_get : entryFor table "method_descriptor.__get__" = some Builtin.«method_descriptor.__get__» := entryFor_of_tree (by kernel_rfl)
theorem args_md_get (a b c : Value) : argsOk "method_descriptor.__get__" ⟨[a, b, c], []⟩ := by unfold argsOk; kernel_rfl
theorem told_fmt : Manifest.toldItsClass.contains "str.format" = false := by decide +kernel
theorem owner_fmt : (".".intercalate ("str.format".cutAt '.').dropLast) = "str" := by
  have e0 : "str.format".cutAt '.' = ["str", "format"] := by first | rfl | decide +kernel
  rw [e0]; rfl
theorem sub_fmt : isSubtype (.type "str") (.type (".".intercalate ("str.format".cutAt '.').dropLast)) = pure true := by rw [owner_fmt, isSubtype_type]; kernel_rfl
abbrev boundFmt (x : PySem.Str) (u : Tok) : Obj := { cls := .type "builtin_function_or_method", data := .fields #[.builtin "str.format", .str x u] }
section
variable {h : Heap} {g : Array GenState} {d : Drawn} {t : Nat} {os : OsState} {x : PySem.Str} {u : Tok}
set_option maxHeartbeats 1000000 in
theorem fmt_get {R : Result → Shared → Prop} (hq : R (.ok (.ret (.ref h.objs.size))) ⟨h.push (boundFmt x u), g, d, t, os⟩) :
    codeAny (model prog w) A (.call (.builtin "method_descriptor.__get__") ⟨[.builtin "str.format", .str x u, .type "str"], []⟩) R ⟨h, g, d, t, os⟩ := by
  have hT : (⟨h, g, d, t, os⟩ : Shared).TypeIs (.str x u) "str" := rfl
  have hT5 : (⟨h, g, d, t, os⟩ : Shared).TypeIs (.builtin "str.format") "method_descriptor" := ty_fmt
  have f8 := sub_fmt
  have f9 := told_fmt
  refine codeAny_call_builtin slot_md_get.plain entry_md_get (slot_md_get.check _ _ _ _ _ _ _ _ hT5 (args_md_get _ _ _) ?_)
  repeat (any_goals (first | assumption | wp_step))
set_option maxHeartbeats 1000000 in
theorem fmt_attr {Q : Value → Shared → Prop} (hq : Q (.ref h.objs.size) ⟨h.push (boundFmt x u), g, d, t + 1, os⟩) : wpAny (model prog w) A (getAttr (.str x u) "format" true) Q E ⟨h, g, d, t, os⟩ := by
  have hT : ∀ s' : Shared, s'.TypeIs (.str x u) "str" := fun _ => rfl
  have f2 := PySem.F.slot_str_getattribute.lookup
  have f3 := PySem.F.slot_str_getattribute.bind (.str x u)
  have f4 := lk_str_format
  unfold getAttr getAttrBy
  repeat (any_goals (first | assumption | wp_step))
  refine codeAny_call_builtin PySem.F.slot_str_getattribute.plain PySem.F.entry_object_getattribute (PySem.F.slot_str_getattribute.check _ _ _ _ _ _ _ _ (hT _) (PySem.F.args_object_getattribute_2 _ _) ?_)
  have f5 := lk_md_get
  have f6 := lk_md_set
  have f7 := lk_md_del
  have f8 := ty_fmt
  repeat (any_goals (first | assumption | wp_step))
  refine fmt_get ?_
  repeat (any_goals (first | assumption | wp_step))
end
theorem check_bf {X l k : PySem.Str} {a b : Int} {t u1 u2 u3 u4 : Tok} : checkBoundCall "str.format" ⟨[.str X t, .int a u1, .str k u2, .int b u3, .str l u4], []⟩ = pure () := by kernel_rfl
end
end Mine
set_option maxRecDepth 100000
namespace Mine
theorem wpAny_of_imp {P Q : Prop} (h : P → Q) (p : P) : Q := h p
section
variable {prog : Program} {w : World} {A : Around} {E : Value → Shared → Prop} {s : Shared}
/-- the bound method called -/
theorem call_bf {q : Addr} {a b : Int} {k l : PySem.Str} {t u1 u2 u3 u4 : Tok} {Q : Value → Shared → Prop} (ho : s.heap.get? q = some (boundFmt (PySem.Str.ofString "{0} {1} {2} {3}") t)) (ha : 0 ≤ a) (ha' : a < 100) (hb : 0 ≤ b) (hb' : b < 100) (hk : k.length ≤ 100) (hl : l.length ≤ 100)
    (h : ∀ t' n, Q (.str (((PySem.Str.ofString (toString a) ++ PySem.Str.ofString " ") ++ k ++ PySem.Str.ofString " ") ++ PySem.Str.ofString (toString b) ++ PySem.Str.ofString " " ++ l) t') { s with toks := n }) :
    wpAny (model prog w) A (call (.ref q) [.int a u1, .str k u2, .int b u3, .str l u4]) Q E s := by
  obtain ⟨X', hX, hm⟩ := meets_lc (t := t) (u1 := u1) (u2 := u2) (u3 := u3) (u4 := u4) ha ha' hb hb' hk hl
  rw [hX] at ho
  refine wpAny_call (codeAny_of_tree ?_)
  show wpAny _ _ (callAny (.ref q) _) _ _ _
  refine nd_load ho ?_
  refine wpAny_bind (wpAny_pure ?_)
  dsimp only
  rw [if_pos (by rfl)]
  refine' wpAny_of_imp (P := wpAny (model prog w) _ (if ((Value.type "builtin_function_or_method" != Value.type "method") = true) then (checkBoundCall "str.format" ⟨.str X' t :: [.int a u1, .str k u2, .int b u3, .str l u4], []⟩ >>= fun _ => again (.builtin "str.format" ⟨.str X' t :: [.int a u1, .str k u2, .int b u3, .str l u4], []⟩)) else _) _ _ _) id ?_
  rw [if_pos (by rfl)]
  refine wpAny_bind (wpAny_of_eq (a := ()) check_bf ?_)
  exact wpAny_pure ⟨Code.quiet_builtin _ (by decide +kernel), codeAny_builtin F.entry_str_format_m (by rw [Around.under_plainId F.slot_str_format_m.plain]; exact hm prog w A (fun r s' => match r with | .ok (.ret v) => Q v s' | .ok _ => False | .error e => E e s') s h)⟩
end
end Mine
set_option maxRecDepth 100000
namespace Mine
theorem only_one {l : List Int} (nd : l.Nodup) {j : Int} (h : ∀ y, y ∈ l ↔ y = j) : l = [j] := by
  cases l with
  | nil => exact absurd ((h j).mpr rfl) (by simp)
  | cons a r =>
    obtain rfl : a = j := (h a).mp (by simp)
    cases r with
    | nil => rfl
    | cons b r' =>
      obtain rfl : b = a := (h b).mp (by simp)
      simp at nd
theorem met_iff (val : Nat → Int) (n : Nat) (a st d y : Int) (hv : ∀ i : Nat, val i = a + i * st + d) : ((firstMet val n).any (· == y) = true) ↔ ∃ j : Int, 0 ≤ j ∧ j < n ∧ a + j * st + d = y := by
  rw [firstMet_mem]
  constructor
  · rintro ⟨j, hj, e⟩
    exact ⟨j, by omega, by omega, by rw [← e, hv]⟩
  · rintro ⟨j, h0, hj, e⟩
    refine ⟨j.toNat, by omega, ?_⟩
    rw [hv, Int.toNat_of_nonneg h0]; exact e
/-- a day in the Tzolkin is met once in 260 days -/
theorem tz_one {x i : Int} {ad : List Int} {v1 v2 : Nat → Int} {n1 n2 : Nat} (h1 : 1 ≤ x) (h2 : x ≤ 13) (h3 : 0 ≤ i) (h4 : i < 20) (nd : ad.Nodup)
    (h : ∀ y, y ∈ ad ↔ (firstMet v1 n1).any (· == y) = true ∧ (firstMet v2 n2).any (· == y) = true) (e1 : ∀ j : Nat, v1 j = 0 + j * 13 + x) (e2 : ∀ j : Nat, v2 j = 0 + j * 20 + (1 + i)) (m1 : n1 = 20) (m2 : n2 = 13) :
    ∃ j, ad = [j] ∧ 1 ≤ j ∧ j ≤ 260 ∧ j % 13 = x % 13 ∧ j % 20 = (i + 1) % 20 := by
  subst m1 m2
  refine ⟨13 * ((17 * (1 + i - x)) % 20) + x, only_one nd fun y => ?_, by omega, by omega, by omega, by omega⟩
  rw [h, met_iff v1 _ 0 13 x y e1, met_iff v2 _ 0 20 (1 + i) y e2]
  constructor
  · rintro ⟨⟨j, a1, a2, a3⟩, ⟨k, b1, b2, b3⟩⟩
    omega
  · rintro rfl
    exact ⟨⟨(17 * (1 + i - x)) % 20, by omega, by omega, by omega⟩, ⟨(13 * ((17 * (1 + i - x)) % 20) + x - 1 - i) / 20, by omega, by omega, by omega⟩⟩
/-- both sets of next_tzolkin_haab meet in one number below 18980, or in none -/
theorem both_sets {p q : Int} {ad : List Int} {v1 v2 : Nat → Int} {n1 n2 : Nat} (h1 : 0 ≤ p) (h2 : p < 365) (h3 : 0 ≤ q) (h4 : q < 260) (nd : ad.Nodup)
    (h : ∀ y, y ∈ ad ↔ (firstMet v1 n1).any (· == y) = true ∧ (firstMet v2 n2).any (· == y) = true) (e1 : ∀ j : Nat, v1 j = 0 + j * 260 + q) (e2 : ∀ j : Nat, v2 j = 0 + j * 365 + p) (m1 : n1 = 73) (m2 : n2 = 52) :
    ((p - q) % 5 ≠ 0 ∧ ad = []) ∨ ((p - q) % 5 = 0 ∧ ∃ j, ad = [j] ∧ 0 ≤ j ∧ j < 18980 ∧ j % 365 = p ∧ j % 260 = q) := by
  subst m1 m2
  have hm : ∀ y, y ∈ ad ↔ (∃ j : Int, 0 ≤ j ∧ j < 73 ∧ 0 + j * 260 + q = y) ∧ (∃ j : Int, 0 ≤ j ∧ j < 52 ∧ 0 + j * 365 + p = y) := fun y => by
    rw [h, met_iff v1 _ 0 260 q y e1, met_iff v2 _ 0 365 p y e2]; rfl
  by_cases h5 : (p - q) % 5 = 0
  · right
    refine ⟨h5, 260 * ((((p - q) / 5) * 66) % 73) + q, only_one nd fun y => ?_, by omega, by omega, by omega, by omega⟩
    rw [hm]
    constructor
    · rintro ⟨⟨j, a1, a2, a3⟩, ⟨k, b1, b2, b3⟩⟩
      omega
    · rintro rfl
      exact ⟨⟨(((p - q) / 5) * 66) % 73, by omega, by omega, by omega⟩, ⟨(260 * ((((p - q) / 5) * 66) % 73) + q - p) / 365, by omega, by omega, by omega⟩⟩
  · left
    refine ⟨h5, ?_⟩
    cases ad with
    | nil => rfl
    | cons a r =>
      obtain ⟨⟨j, a1, a2, a3⟩, ⟨k, b1, b2, b3⟩⟩ := (hm a).mp (by simp)
      omega
end Mine
set_option maxRecDepth 100000
namespace Mine
abbrev Tup (vs : Array Value) : Obj := { cls := .type "tuple", data := .seq vs }
abbrev Led := List (Addr × Obj)
/-- a program with nothing in it, and all the text's names loose: what is known of the top beside the written part -/
def p0 : Program := { main := { body := [], scope := { kind := .module, names := [], isGenerator := false, isCoroutine := false }, futureAnnotations := false, file := "" }, modules := [], parses := [], absent := [] }
def loose0 : List Str := [Str.ofString "midnight", Str.ofString "amod", Str.ofString "EPOCH", Str.ofString "HAAB", Str.ofString "TZOLKIN", Str.ofString "to_jd", Str.ofString "from_jd", Str.ofString "to_haab", Str.ofString "to_tzolkin", Str.ofString "lc_to_haab", Str.ofString "lc_to_tzolkin", Str.ofString "lc_to_haab_tzolkin", Str.ofString "_haab_count", Str.ofString "_tzolkin_from_count", Str.ofString "_tzolkin_count", Str.ofString "tzolkin_generator", Str.ofString "next_haab", Str.ofString "next_tzolkin", Str.ofString "next_tzolkin_haab", Str.ofString "month_length", Str.ofString "_law_months", Str.ofString "_law_names", Str.ofString "_law_cell", Str.ofString "_law_haab", Str.ofString "_law_tzolkin", Str.ofString "_law_ahead", Str.ofString "_law_both", Str.ofString "_law_call", Str.ofString "_law_first_of", Str.ofString "law"]

/-- what a call may be followed by when it returns -/
abbrev Ret (h₀ : Heap) (L : Addr) (m : Str → Option Value) (news : Led) (os : OsState) (Q : Value → Shared → Prop) (Rel : Value → Led → Prop) : Prop :=
  ∀ (v : Value) (own : Led) (h' : Heap) (g' : Array GenState) (d' : Drawn) (tk' : Nat), Rel v own → Fr h₀ L h' m → News h₀ L h' (own ++ news) → AllBare g' → Q v { heap := h', gens := g', drawn := d', toks := tk', os := os }

abbrev Ctr (w : World) (mean : ExcName → Option Value) (mg mb : Str → Option Value) (k : Nat) (f : Addr) (vs : List Value) (Pre : Led → Prop) (Rel : Value → Led → Prop) : Prop :=
  ∀ (dp un : Nat) (gd : Option (List Code)) (cn : Str) (cs : Scope) (a : Addr) (ccd : Value) (cl : List (Str × Addr)) (outer : List Env) (A₀ : Around) (base h₀ : Heap) (L : Addr) (m : Str → Option Value) (news : Led) (s : Shared) (Q E : Value → Shared → Prop),
    Below A₀ base outer h₀ → Fr h₀ L s.heap m → (hd.heap_39 w.params).In h₀ → News h₀ L s.heap news → Top p0 loose0 mean mg mb h₀ → cs.kind = .function → AllBare s.gens → dp + k < recursionLimit → un + 10 * k < cLine → Pre news →
    Ret h₀ L m news s.os Q Rel →
    wpAny (model PySem.Challenge.pw_ja0020_01 w) (ktrTop dp un gd cn cs L a ccd cl outer) (call (.ref f) vs) Q E s

/-- the two code tables that generator expressions write: of _tzolkin_count (95) and of next_tzolkin_haab (124) -/
abbrev T2 (q1 q2 : Array Value) (rest : Led) : Led := (95, tabO q1) :: (124, tabO q2) :: rest
abbrev Off (rest : Led) : Prop := ∀ p ∈ rest, p.1 ≠ 95 ∧ p.1 ≠ 124
abbrev RetT (pre : List GenState) (h₀ : Heap) (L : Addr) (m : Str → Option Value) (rest : Led) (os : OsState) (Q : Value → Shared → Prop) (Rel : Value → Led → Prop) : Prop :=
  ∀ (v : Value) (own : Led) (h' : Heap) (g' : Array GenState) (d' : Drawn) (tk' : Nat) (q1 q2 : Array Value), Rel v own → TriplesOk q1.toList → TriplesOk q2.toList → Fr h₀ L h' m → News h₀ L h' (own ++ T2 q1 q2 rest) → GP pre g' → Q v { heap := h', gens := g', drawn := d', toks := tk', os := os }

theorem ne_tab {h₀ h : Heap} {L a P : Addr} {news : Led} {o : Obj} {ps : Array Value} (N : News h₀ L h news) (hm : (a, o) ∈ news) (hP : (P, tabO ps) ∈ news) (hd : ∀ vs, o.data ≠ .fields vs ∨ o.cls ≠ .none) : a ≠ P := fun e => by
  subst e
  have h1 := (N _ hm).1
  have h2 := (N _ hP).1
  rw [h1] at h2
  cases h2
  rcases hd ps with h | h <;> exact h rfl

theorem code99 {w : World} {h : Heap} {ps : Array Value} (X : (hd.heap_39 w.params).In h) (hP : h.get? 95 = some (tabO ps)) (tr : TriplesOk ps.toList) :
    h.IsCode 99 95 ps ∧ ∃ o vs, h.get? 99 = some o ∧ o.cls = .type "code" ∧ o.data = .fields vs ∧ vs[11]? = some (.ref 95) := by
  have e := X 99 _ rfl
  exact ⟨⟨_, _, _, _, _, _, _, _, _, _, e, rfl, rfl, rfl, rfl, rfl, rfl, hP, rfl, tr, by decide⟩, _, _, e, rfl, rfl, rfl⟩
theorem code128 {w : World} {h : Heap} {ps : Array Value} (X : (hd.heap_39 w.params).In h) (hP : h.get? 124 = some (tabO ps)) (tr : TriplesOk ps.toList) :
    h.IsCode 128 124 ps ∧ ∃ o vs, h.get? 128 = some o ∧ o.cls = .type "code" ∧ o.data = .fields vs ∧ vs[11]? = some (.ref 124) := by
  have e := X 128 _ rfl
  exact ⟨⟨_, _, _, _, _, _, _, _, _, _, e, rfl, rfl, rfl, rfl, rfl, rfl, hP, rfl, tr, by decide⟩, _, _, e, rfl, rfl, rfl⟩

def haabs : List Str := [Str.ofString "Pop", Str.ofString "Wo'", Str.ofString "Zip", Str.ofString "Sotz'", Str.ofString "Sek", Str.ofString "Xul", Str.ofString "Yaxk'in'", Str.ofString "Mol", Str.ofString "Ch'en", Str.ofString "Yax", Str.ofString "Sak'", Str.ofString "Keh", Str.ofString "Mak", Str.ofString "K'ank'in", Str.ofString "Muwan'", Str.ofString "Pax", Str.ofString "K'ayab", Str.ofString "Kumk'u", Str.ofString "Wayeb'"]
def tzols : List Str := [Str.ofString "Imix'", Str.ofString "Ik'", Str.ofString "Ak'b'al", Str.ofString "K'an", Str.ofString "Chikchan", Str.ofString "Kimi", Str.ofString "Manik'", Str.ofString "Lamat", Str.ofString "Muluk", Str.ofString "Ok", Str.ofString "Chuwen", Str.ofString "Eb'", Str.ofString "B'en", Str.ofString "Ix", Str.ofString "Men", Str.ofString "K'ib'", Str.ofString "Kab'an", Str.ofString "Etz'nab'", Str.ofString "Kawak", Str.ofString "Ajaw"]
@[irreducible] def HN (i : Int) : Str := haabs.getD i.toNat Str.empty
@[irreducible] def TN (i : Int) : Str := tzols.getD i.toNat Str.empty
theorem HN_eq (i : Int) : HN i = haabs.getD i.toNat Str.empty := by unfold HN; rfl
theorem TN_eq (i : Int) : TN i = tzols.getD i.toNat Str.empty := by unfold TN; rfl

/-- a pair of an int and a text, made by the call -/
def PairR (x : Int) (y : Str) (v : Value) (own : Led) : Prop := ∃ t tk tk', v = .ref t ∧ own = [(t, Tup #[.int x tk, .str y tk'])]
theorem PairR.mk' {x x' : Int} {y y' : Str} {t : Addr} {tk tk' : Tok} (h1 : x' = x) (h2 : y' = y) : PairR x y (.ref t) [(t, Tup #[.int x' tk, .str y' tk'])] := by subst h1 h2; exact ⟨t, tk, tk', rfl, rfl⟩
theorem PairR.out {x : Int} {y : Str} {v : Value} {own : Led} (h : PairR x y v own) : ∃ t tk tk', v = .ref t ∧ own = [(t, Tup #[.int x tk, .str y tk'])] := h
/-- the pair (number, name) of a day's count 0 .. 259; the pair (day, month) of a place 0 .. 364 -/
abbrev TzAt (c : Int) : Value → Led → Prop := PairR (c % 13 + 1) (TN (c % 20))
abbrev HaAt (p : Int) : Value → Led → Prop := PairR (p % 20) (HN (p / 20))
def IntR (x : Int) (v : Value) (own : Led) : Prop := (∃ tk, v = .int x tk) ∧ own = []
theorem IntR.mk' {x x' : Int} {tk : Tok} (h1 : x' = x) : IntR x (.int x' tk) [] := by subst h1; exact ⟨⟨tk, rfl⟩, rfl⟩
theorem IntR.out {x : Int} {v : Value} {own : Led} (h : IntR x v own) : ∃ tk, v = .int x tk ∧ own = [] := let ⟨⟨tk, e⟩, q⟩ := h; ⟨tk, e, q⟩
def StrR (x : Str) (v : Value) (own : Led) : Prop := (∃ tk, v = .str x tk) ∧ own = []
theorem StrR.mk' {x x' : Str} {tk : Tok} (h1 : x' = x) : StrR x (.str x' tk) [] := by subst h1; exact ⟨⟨tk, rfl⟩, rfl⟩
theorem StrR.out {x : Str} {v : Value} {own : Led} (h : StrR x v own) : ∃ tk, v = .str x tk ∧ own = [] := let ⟨⟨tk, e⟩, q⟩ := h; ⟨tk, e, q⟩
abbrev NoPre (_ : Led) : Prop := True
abbrev HaC (jd : Int) : Int := (jd - 584283 + 348) % 365
abbrev TzC (jd : Int) : Int := (jd - 584283 + 159) % 260
theorem fmod_pos (a : Int) {b : Int} (h : 0 ≤ b) : Int.fmod a b = a % b := Int.fmod_eq_emod_of_nonneg a h
theorem fdiv_pos (a : Int) {b : Int} (h : 0 ≤ b) : Int.fdiv a b = a / b := Int.fdiv_eq_ediv_of_nonneg a h
theorem fill0 : PySem.Challenge.rw_ja0020_01 = PySem.Challenge.rw_ja0020_01 ∧ hd.heap_39 = hd.heap_39 := by
  k_fill
  exact ⟨rfl, rfl⟩
/-- what is known of the heap at the bottom -/
def BaseOk (w : World) (mean : ExcName → Option Value) (mg mb : Str → Option Value) (base : Heap) : Prop := (hd.heap_39 w.params).In base ∧ Top p0 loose0 mean mg mb base
/-- what a call may be followed by when it raises -/
abbrev RetX (pre : List GenState) (base h₀ : Heap) (env : Env) (outer : List Env) (L : Addr) (m : Str → Option Value) (rest : Led) (os : OsState) (E : Value → Shared → Prop) (RelE : String → Prop) : Prop :=
  ∀ (X : String) (e : Addr) (G h' : Heap) (g' : Array GenState) (d' : Drawn) (tk' : Nat) (q1 q2 : Array Value), RelE X → TriplesOk q1.toList → TriplesOk q2.toList → RaisedN base (env :: outer) e (.type X) (T2 q1 q2 rest) h' → Fr h₀ L G m → G.UpToSlots h' → GP pre g' →
    E (.ref e) { heap := h', gens := g', drawn := d', toks := tk', os := os }
abbrev CtrX (w : World) (mean : ExcName → Option Value) (mg mb : Str → Option Value) (k : Nat) (f : Addr) (vs : List Value) (Pre : Led → Prop) (Rel : Value → Led → Prop) (RelE : String → Prop) : Prop :=
  ∀ (dp un : Nat) (gd : Option (List Code)) (cn : Str) (cs : Scope) (a : Addr) (ccd : Value) (cl : List (Str × Addr)) (outer : List Env) (A₀ : Around) (base h₀ : Heap) (L : Addr) (m : Str → Option Value) (q1 q2 : Array Value) (rest : Led) (pre : List GenState) (s : Shared) (Q E : Value → Shared → Prop),
    Below A₀ base outer h₀ → Fr h₀ L s.heap m → (hd.heap_39 w.params).In h₀ → News h₀ L s.heap (T2 q1 q2 rest) → Top p0 loose0 mean mg mb h₀ → cs.kind = .function → GP pre s.gens → dp + k < recursionLimit → un + 10 * k < cLine → TriplesOk q1.toList → TriplesOk q2.toList → Off rest → BaseOk w mean mg mb base → Pre rest →
    RetT pre h₀ L m rest s.os Q Rel → RetX pre base h₀ (envX cn cs L a ccd cl) outer L m rest s.os E RelE →
    wpAny (model PySem.Challenge.pw_ja0020_01 w) (ktrTop dp un gd cn cs L a ccd cl outer) (call (.ref f) vs) Q E s

theorem RaisedN.sub {base : Heap} {l : List Env} {e : Addr} {cls : Value} {news news' : Led} {h : Heap} (R : RaisedN base l e cls news h) (hs : ∀ q ∈ news', q ∈ news) : RaisedN base l e cls news' h := by
  obtain ⟨B, a0, hB, hl, hfl⟩ := R
  exact ⟨B, a0, hB, fun q hq => hl q (hs q hq), hfl⟩
theorem RaisedK_toN {base : Heap} {l : List Env} {e t : Addr} {cls : Value} {vs : List Value} {news : Led} {h : Heap} (R : RaisedK base l e cls t vs news h) : RaisedN base l e cls news h := by
  obtain ⟨⟨B, hB, hl, hfl, _⟩, _⟩ := R
  exact ⟨B, _, hB, hl, hfl⟩

def names : List Str := haabs ++ tzols
theorem names_len : ∀ k ∈ names, (reprText k).length ≤ 100 ∧ k.length ≤ 100 := by decide +kernel
theorem sizeLine_big : 1000 ≤ sizeLine := by rw [sizeLine_eq]; decide
theorem list29 {w : World} {h : Heap} (X : (hd.heap_39 w.params).In h) : ∃ vs, h.IsList 29 vs.toArray ∧ StrsAre vs haabs := by
  have e := X 29 _ rfl
  refine ⟨_, ⟨_, e, rfl, _, rfl⟩, ?_⟩
  repeat (first | exact StrsAre.nil | refine StrsAre.cons _ _ ?_)
theorem list30 {w : World} {h : Heap} (X : (hd.heap_39 w.params).In h) : ∃ vs, h.IsList 30 vs.toArray ∧ StrsAre vs tzols := by
  have e := X 30 _ rfl
  refine ⟨_, ⟨_, e, rfl, _, rfl⟩, ?_⟩
  repeat (first | exact StrsAre.nil | refine StrsAre.cons _ _ ?_)
theorem TN_idx {k : Str} (h : tzols.idxOf k < tzols.length) : k = TN (tzols.idxOf k : Nat) := by
  rw [TN_eq]
  have e : ((tzols.idxOf k : Nat) : Int).toNat = tzols.idxOf k := by simp
  rw [e, List.getD_eq_getElem?_getD, List.getElem?_eq_getElem h]
  simp [List.getElem_idxOf h]
theorem HN_idx {k : Str} (h : haabs.idxOf k < haabs.length) : k = HN (haabs.idxOf k : Nat) := by
  rw [HN_eq]
  have e : ((haabs.idxOf k : Nat) : Int).toNat = haabs.idxOf k := by simp
  rw [e, List.getD_eq_getElem?_getD, List.getElem?_eq_getElem h]
  simp [List.getElem_idxOf h]
section
variable {w : World} {A : Around} {E : Value → Shared → Prop} {s : Shared} {h₀ : Heap} {L : Addr} {m : Str → Option Value}
theorem index_tz {k : Str} {t : Tok} {Q : Value → Shared → Prop} (hh : A.handled = none) (F : Fr h₀ L s.heap m) (X : (hd.heap_39 w.params).In h₀) (hk : k ∈ names)
    (hq : ∀ i : Int, 0 ≤ i → i < 20 → k = TN i → Q (.int i s.toks) { s with toks := s.toks + 1 })
    (he : k ∉ tzols → ∀ h' tk e, Heap.NewExc s.heap h' e "ValueError" → E (.ref e) { s with heap := h', toks := tk }) :
    wpAny (model PySem.Challenge.pw_ja0020_01 w) A (call (.builtin "list.index") [.ref 30, .str k t]) Q E s := by
  obtain ⟨vs, hl, hi⟩ := list30 (Frag.In.keeps X F.keep)
  have := (names_len k hk).1
  have := sizeLine_big
  exact index_strs hh hl hi (by decide) (by omega) (fun hlt => hq _ (by omega) (by have : tzols.length = 20 := rfl; omega) (TN_idx hlt)) he
theorem index_ha {k : Str} {t : Tok} {Q : Value → Shared → Prop} (hh : A.handled = none) (F : Fr h₀ L s.heap m) (X : (hd.heap_39 w.params).In h₀) (hk : k ∈ names)
    (hq : ∀ i : Int, 0 ≤ i → i < 19 → k = HN i → Q (.int i s.toks) { s with toks := s.toks + 1 })
    (he : k ∉ haabs → ∀ h' tk e, Heap.NewExc s.heap h' e "ValueError" → E (.ref e) { s with heap := h', toks := tk }) :
    wpAny (model PySem.Challenge.pw_ja0020_01 w) A (call (.builtin "list.index") [.ref 29, .str k t]) Q E s := by
  obtain ⟨vs, hl, hi⟩ := list29 (Frag.In.keeps X F.keep)
  have := (names_len k hk).1
  have := sizeLine_big
  exact index_strs hh hl hi (by decide) (by omega) (fun hlt => hq _ (by omega) (by have : haabs.length = 19 := rfl; omega) (HN_idx hlt)) he
end
theorem rot1 {h₀ h : Heap} {L : Addr} {x a : Addr × Obj} {r : Led} (N : News h₀ L h (x :: a :: r)) : News h₀ L h (a :: x :: r) :=
  fun p hp => N p (((List.Perm.swap x a r).mem_iff).mp hp)
theorem rot2 {h₀ h : Heap} {L : Addr} {x y a : Addr × Obj} {r : Led} (N : News h₀ L h (x :: y :: a :: r)) : News h₀ L h (a :: x :: y :: r) :=
  fun p hp => N p (((List.perm_middle (l₁ := [x, y]) (l₂ := r) (a := a)).mem_iff).mpr hp)
theorem rot3 {h₀ h : Heap} {L : Addr} {x y z a : Addr × Obj} {r : Led} (N : News h₀ L h (x :: y :: z :: a :: r)) : News h₀ L h (a :: x :: y :: z :: r) :=
  fun p hp => N p (((List.perm_middle (l₁ := [x, y, z]) (l₂ := r) (a := a)).mem_iff).mpr hp)
theorem off_cons {P : Addr} {x : Addr × Obj} {r : Led} (h1 : x.1 ≠ P) (h2 : ∀ p ∈ r, p.1 ≠ P) : ∀ p ∈ x :: r, p.1 ≠ P := List.forall_mem_cons.mpr ⟨h1, h2⟩
theorem leave_made {M : Model} {A₀ : Around} {E : Value → Shared → Prop} {s' : Shared} {base g h : Heap} {outer : List Env} {L a e : Addr} {m : Str → Option Value} {name : Str} {scope : Scope} {cd : Value} {cl : List (Str × Addr)} {news : Led} {X : String} {Q : Unit → Shared → Prop}
    (K : Below A₀ base outer g) (F : Fr g L h m) (N : News g L h news) (hx : Heap.NewExc h s'.heap e X)
    (hQ : ∀ h', RaisedN base outer e (.type X) news h' → g.UpToSlots h' → Q () { s' with heap := h' }) (hk : scope.kind = .function := by rfl) :
    wpAny M (A₀.deeper (envX name scope L a cd cl)) (leaving (envX name scope L a cd cl) (.ref e)) Q E s' := by
  obtain ⟨ob, tp, he, hc, hd⟩ := hx.there
  exact leave_new K F N hx.keeps hx.new he hc hd rfl rfl hQ hk
theorem led_sub {a b : Addr × Obj} {r news : Led} (h1 : a ∈ news) (h2 : b ∈ news) (h3 : ∀ q ∈ r, q ∈ news) : ∀ q ∈ a :: b :: r, q ∈ news := List.forall_mem_cons.mpr ⟨h1, List.forall_mem_cons.mpr ⟨h2, h3⟩⟩
theorem led_in {a : Addr × Obj} {r news : Led} (h : ∀ q ∈ r, q ∈ news) : ∀ q ∈ r, q ∈ a :: news := fun q hq => List.mem_cons_of_mem _ (h q hq)
theorem meth_30 {w : World} {A : Around} {E : Value → Shared → Prop} {s : Shared} {h₀ : Heap} {L : Addr} {m : Str → Option Value} {pl : Sem Bool} {Q : Value × List Value → Shared → Prop} (F : Fr h₀ L s.heap m) (X : (hd.heap_39 w.params).In h₀) (h : Q (.builtin "list.index", [.ref 30]) s) :
    wpAny (model PySem.Challenge.pw_ja0020_01 w) A (getMethod (.ref 30) "index" pl) Q E s := by
  have e := Frag.In.keeps X F.keep 30 _ rfl
  exact getMethod_builtin ⟨_, e, rfl⟩ PySem.F.plainAttrs_list PySem.F.slot_list_index PySem.F.type_list_index (fun a q => by cases q; exact ⟨_, e, rfl⟩) h
theorem meth_29 {w : World} {A : Around} {E : Value → Shared → Prop} {s : Shared} {h₀ : Heap} {L : Addr} {m : Str → Option Value} {pl : Sem Bool} {Q : Value × List Value → Shared → Prop} (F : Fr h₀ L s.heap m) (X : (hd.heap_39 w.params).In h₀) (h : Q (.builtin "list.index", [.ref 29]) s) :
    wpAny (model PySem.Challenge.pw_ja0020_01 w) A (getMethod (.ref 29) "index" pl) Q E s := by
  have e := Frag.In.keeps X F.keep 29 _ rfl
  exact getMethod_builtin ⟨_, e, rfl⟩ PySem.F.plainAttrs_list PySem.F.slot_list_index PySem.F.type_list_index (fun a q => by cases q; exact ⟨_, e, rfl⟩) h
theorem allLt_ne {d c : Nat} : ∀ {l : Led}, AllLt d l → @LE.le Nat _ d c → ∀ p ∈ l, p.1 ≠ c
  | [], _, _ => fun _ h => nomatch h
  | _ :: _, h, hc => List.forall_mem_cons.mpr ⟨Nat.ne_of_lt (Nat.lt_of_lt_of_le h.1 hc), allLt_ne h.2 hc⟩
end Mine

set_option maxRecDepth 100000
namespace Mine
local macro_rules | `(tactic| k_room) => `(tactic| ktr_room)
set_option maxHeartbeats 8000000 in
theorem c_tzolkin_count (w : World) (mean : ExcName → Option Value) (mg mb : Str → Option Value) (x : Int) (k : Str) (t1 t2 : Tok) (h1 : k ∈ names) :
    CtrX w mean mg mb 6 100 [.int x t1, .str k t2] NoPre (fun v own => 1 ≤ x ∧ x ≤ 13 ∧ ∃ i j, 0 ≤ i ∧ i < 20 ∧ k = TN i ∧ 1 ≤ j ∧ j ≤ 260 ∧ j % 13 = x % 13 ∧ j % 20 = (i + 1) % 20 ∧ IntR j v own) (fun X => (X = "IndexError" ∧ (x < 1 ∨ 13 < x)) ∨ (X = "ValueError" ∧ 1 ≤ x ∧ x ≤ 13 ∧ k ∉ tzols)) := by
  intro dp un gd cn cs a ccd cl outer A₀ base h₀ L m q1 q2 rest pre s Q E B F X N T hk G hd hu tr1 tr2 hoff BO hpre hret hrex; (dsimp only [T2] at N)
  refine wpAny_call ?_
  (k_dflt (refine' code_defC ?k1 ?k2 ?k3 ?k4 ?k5 ?kA ?kF ?kK ?k6 ?k7 ?k8 ?k9 ?kB ?kD ?_ ?c2 ?c3 ?c4; (case kA => exact rfl); (case kF => exact rfl); (case kK => assumption); (case k1 => k_asm); (case k2 => k_asm); (case k3 => k_asm); (case k4 => k_asm); (case k5 => k_asm); (case k6 => k_is); (case k7 => k_is); (case k8 => ktr_room); (case k9 => exact BindsTo.of_eq rfl); (case kB => exact rfl); (case kD => decide +kernel); (case c2 => exact rfl); (case c3 => exact rfl); (case c4 => exact rfl); k_whole; intro g' L' h' tk' cells' FG' F' N' Y' B' X' T' l1; (try k_lt l1); k_cells Y'; (try simp only [List.cons_append, List.nil_append] at N'); (try dsimp only); (try k_lift B'); (try k_fold)))
  repeat' (first | ((with_reducible show wpAny _ _ (eval (Expr.GeneratorExp _ _ _ _) _) _ _ _); (refine' gen_start ?hh ?hco ?hclos ?hcell ?h0 ?hx ?hkind ?hroom ?_ ?hs; (case hh => exact rfl); (case hco => exact rfl); (case hclos => with_unfolding_all exact rfl); (case hcell => decide); (case h0 => exact rfl); (case hx => exact rfl); (case hkind => exact rfl); (case hroom => ktr_room); (case hs => intro _; with_unfolding_all exact rfl))) | ((with_reducible show GenTo _ _ _ _ _ _ _ _ _ _ _ _ _); ((with_reducible rename IsRange _ _ _ _ _ _ _ _ => rX9); (with_reducible rename Fr _ _ _ _ => F8); (rename Top _ _ _ _ _ _ => T8); (rename Frag.In _ _ => X8); refine Exists.elim (bmod_of_top T8) (fun bm9 hb9 => Exists.elim hb9 fun ob9 M9 => ?_); (k_dflt (refine' gen_range (P := 95) (c := 99) F8 ?N ?G rX9 (Top.nolimit T8) M9 rfl rfl ?hC ?hT ?off ?sm ?n ?kd ?kx ?kdn ?e1 ?e2 ?e3 ?cel ?oc ?_)); (case N => first | assumption | exact rot1 (by assumption) | exact rot2 (by assumption) | exact rot3 (by assumption)); (case G => assumption); (case hC => exact (code99 (Frag.In.keeps X8 (Fr.keep F8)) (News.get (by assumption) (by k_mem)) (by assumption)).1); (case hT => exact (code99 (Frag.In.keeps X8 (Fr.keep F8)) (News.get (by assumption) (by k_mem)) (by assumption)).2); (case off => (repeat (first | exact (fun p hp => (by assumption : Off _) p hp |>.1) | (refine off_cons (by first | decide | k_ne | (dsimp only; exact ne_tab (by assumption) (by k_mem) (by k_mem) (by intro _; first | (right; intro e9; cases e9; done) | (left; intro e9; rename_i hdq; rw [hdq] at e9; cases e9; done)))) ?_)))); (case sm => decide +kernel); (case n => exact rfl); (case kd => exact rfl); (case kx => exact rfl); (case kdn => exact rfl); (case e1 => decide +kernel); (case e2 => decide +kernel); (case e3 => decide +kernel); (case cel => k_mem); (case oc => k_asm); k_whole; intro ga9 h9 g9 tk9 ps9 tr9 F9 N9 G9 X9; clear rX9; (try dsimp only); (try k_sweep))) | ((with_reducible show wpAny _ _ (call (Value.type "set") _) _ _ _); ((with_reducible rename GenI _ _ _ _ _ _ _ _ _ _ _ => X8); (k_dflt (refine' call_set_gen ?hh ?F ?N ?G X8 ?hb ?_)); (case hh => exact rfl); (case F => k_asm); (case N => k_asm); (case G => assumption); (case hb => decide); k_whole; intro S9 h9 g9 tk9 o9 l9 F9 N9 G9 s9; clear X8; (try k_lt l9); (try dsimp only); (try k_sweep))) | ((with_reducible show wpAny _ _ (getMethod (Value.ref _) (PySem.Str.ofString "intersection") _) _ _ _); ((k_dflt (refine' meth_inter_N ?N ?m ?s ?n ?_)); (case N => k_asm); (case m => k_mem); (case s => assumption); (case n => exact Nat.lt_of_succ_lt (firstMet_fits _ (by decide))))) | ((with_reducible show wpAny _ _ (call (Value.builtin "set.intersection") _) _ _ _); ((k_dflt (refine' call_inter_N ?F ?N ?ne ?ma ?mb ?sa ?sb ?n1 ?n2 ?_)); (case F => k_asm); (case N => k_asm); (case ma => k_mem); (case mb => k_mem); (case sa => assumption); (case sb => assumption); (case ne => k_ne); (case n1 => exact firstMet_fits _ (by decide)); (case n2 => exact firstMet_fits _ (by decide)); k_whole; intro R9 h9 o9 ad9 nd9 in9 l9 F9 N9 s9; (try dsimp only); (try k_sweep))) | ((with_reducible show wpAny _ _ (exec (Stmt.Try _ _ _ _ _) _) _ _ _); (refine wpAny_Try_except ?_)) | ((with_reducible show wpAny _ _ (call (Value.builtin "list.index") _) _ _ _); (k_dflt (refine' index_tz ?hh ?F ?X ?k ?_ ?_)); (case hh => exact rfl); (case F => k_asm); (case X => k_asm); (case k => assumption); k_whole; (first | (intro i9 hi9 hj9 hk9; (try dsimp only)) | (intro hk9 h9 tk9 e9 hx9; (try dsimp only)))) | ((with_reducible show wpAny _ _ (storeName _ (PySem.Str.ofString "n") _) _ _ _); (k_dflt (refine' storeX_C ?F ?N ?c ?U ?d ?_ ?a ?b); (case a => rfl); (case b => rfl); (case F => k_asm); (case N => k_asm); (case c => rfl); (case U => first | (refine' UpdF.head ?a; (case a => first | exact List.forall_mem_nil _ | exact allLt_ne l1.2.2 (by omega) | (refine' List.forall_mem_cons.mpr ⟨?a, ?b⟩; (case a => k_ne); (case b => first | exact List.forall_mem_nil _ | exact allLt_ne l1.2.2 (by omega) | (refine' List.forall_mem_cons.mpr ⟨?a, ?b⟩; (case a => k_ne); (case b => first | exact List.forall_mem_nil _ | exact allLt_ne l1.2.2 (by omega) | (refine' List.forall_mem_cons.mpr ⟨?a, ?b⟩; (case a => k_ne); (case b => first | exact List.forall_mem_nil _ | exact allLt_ne l1.2.2 (by omega) | (refine' List.forall_mem_cons.mpr ⟨?a, ?b⟩; (case a => k_ne); (case b => first | exact List.forall_mem_nil _ | exact allLt_ne l1.2.2 (by omega) | (refine' List.forall_mem_cons.mpr ⟨?a, ?b⟩; (case a => k_ne); (case b => first | exact List.forall_mem_nil _ | exact allLt_ne l1.2.2 (by omega))))))))))))) | (refine' UpdF.tail ?a ?b; (case a => k_ne); (case b => first | (refine' UpdF.head ?a; (case a => first | exact List.forall_mem_nil _ | exact allLt_ne l1.2.2 (by omega) | (refine' List.forall_mem_cons.mpr ⟨?a, ?b⟩; (case a => k_ne); (case b => first | exact List.forall_mem_nil _ | exact allLt_ne l1.2.2 (by omega) | (refine' List.forall_mem_cons.mpr ⟨?a, ?b⟩; (case a => k_ne); (case b => first | exact List.forall_mem_nil _ | exact allLt_ne l1.2.2 (by omega) | (refine' List.forall_mem_cons.mpr ⟨?a, ?b⟩; (case a => k_ne); (case b => first | exact List.forall_mem_nil _ | exact allLt_ne l1.2.2 (by omega) | (refine' List.forall_mem_cons.mpr ⟨?a, ?b⟩; (case a => k_ne); (case b => first | exact List.forall_mem_nil _ | exact allLt_ne l1.2.2 (by omega) | (refine' List.forall_mem_cons.mpr ⟨?a, ?b⟩; (case a => k_ne); (case b => first | exact List.forall_mem_nil _ | exact allLt_ne l1.2.2 (by omega))))))))))))) | (refine' UpdF.tail ?a ?b; (case a => k_ne); (case b => first | (refine' UpdF.head ?a; (case a => first | exact List.forall_mem_nil _ | exact allLt_ne l1.2.2 (by omega) | (refine' List.forall_mem_cons.mpr ⟨?a, ?b⟩; (case a => k_ne); (case b => first | exact List.forall_mem_nil _ | exact allLt_ne l1.2.2 (by omega) | (refine' List.forall_mem_cons.mpr ⟨?a, ?b⟩; (case a => k_ne); (case b => first | exact List.forall_mem_nil _ | exact allLt_ne l1.2.2 (by omega) | (refine' List.forall_mem_cons.mpr ⟨?a, ?b⟩; (case a => k_ne); (case b => first | exact List.forall_mem_nil _ | exact allLt_ne l1.2.2 (by omega) | (refine' List.forall_mem_cons.mpr ⟨?a, ?b⟩; (case a => k_ne); (case b => first | exact List.forall_mem_nil _ | exact allLt_ne l1.2.2 (by omega) | (refine' List.forall_mem_cons.mpr ⟨?a, ?b⟩; (case a => k_ne); (case b => first | exact List.forall_mem_nil _ | exact allLt_ne l1.2.2 (by omega))))))))))))) | (refine' UpdF.tail ?a ?b; (case a => k_ne); (case b => first | (refine' UpdF.head ?a; (case a => first | exact List.forall_mem_nil _ | exact allLt_ne l1.2.2 (by omega) | (refine' List.forall_mem_cons.mpr ⟨?a, ?b⟩; (case a => k_ne); (case b => first | exact List.forall_mem_nil _ | exact allLt_ne l1.2.2 (by omega) | (refine' List.forall_mem_cons.mpr ⟨?a, ?b⟩; (case a => k_ne); (case b => first | exact List.forall_mem_nil _ | exact allLt_ne l1.2.2 (by omega) | (refine' List.forall_mem_cons.mpr ⟨?a, ?b⟩; (case a => k_ne); (case b => first | exact List.forall_mem_nil _ | exact allLt_ne l1.2.2 (by omega) | (refine' List.forall_mem_cons.mpr ⟨?a, ?b⟩; (case a => k_ne); (case b => first | exact List.forall_mem_nil _ | exact allLt_ne l1.2.2 (by omega) | (refine' List.forall_mem_cons.mpr ⟨?a, ?b⟩; (case a => k_ne); (case b => first | exact List.forall_mem_nil _ | exact allLt_ne l1.2.2 (by omega))))))))))))) | (refine' UpdF.tail ?a ?b; (case a => k_ne); (case b => first | (refine' UpdF.head ?a; (case a => first | exact List.forall_mem_nil _ | exact allLt_ne l1.2.2 (by omega) | (refine' List.forall_mem_cons.mpr ⟨?a, ?b⟩; (case a => k_ne); (case b => first | exact List.forall_mem_nil _ | exact allLt_ne l1.2.2 (by omega) | (refine' List.forall_mem_cons.mpr ⟨?a, ?b⟩; (case a => k_ne); (case b => first | exact List.forall_mem_nil _ | exact allLt_ne l1.2.2 (by omega) | (refine' List.forall_mem_cons.mpr ⟨?a, ?b⟩; (case a => k_ne); (case b => first | exact List.forall_mem_nil _ | exact allLt_ne l1.2.2 (by omega) | (refine' List.forall_mem_cons.mpr ⟨?a, ?b⟩; (case a => k_ne); (case b => first | exact List.forall_mem_nil _ | exact allLt_ne l1.2.2 (by omega) | (refine' List.forall_mem_cons.mpr ⟨?a, ?b⟩; (case a => k_ne); (case b => first | exact List.forall_mem_nil _ | exact allLt_ne l1.2.2 (by omega))))))))))))) | (refine' UpdF.tail ?a ?b; (case a => k_ne); (case b => (refine' UpdF.head ?a; (case a => first | exact List.forall_mem_nil _ | exact allLt_ne l1.2.2 (by omega) | (refine' List.forall_mem_cons.mpr ⟨?a, ?b⟩; (case a => k_ne); (case b => first | exact List.forall_mem_nil _ | exact allLt_ne l1.2.2 (by omega) | (refine' List.forall_mem_cons.mpr ⟨?a, ?b⟩; (case a => k_ne); (case b => first | exact List.forall_mem_nil _ | exact allLt_ne l1.2.2 (by omega) | (refine' List.forall_mem_cons.mpr ⟨?a, ?b⟩; (case a => k_ne); (case b => first | exact List.forall_mem_nil _ | exact allLt_ne l1.2.2 (by omega) | (refine' List.forall_mem_cons.mpr ⟨?a, ?b⟩; (case a => k_ne); (case b => first | exact List.forall_mem_nil _ | exact allLt_ne l1.2.2 (by omega) | (refine' List.forall_mem_cons.mpr ⟨?a, ?b⟩; (case a => k_ne); (case b => first | exact List.forall_mem_nil _ | exact allLt_ne l1.2.2 (by omega)))))))))))))))))))))))); (case d => k_asm)); k_whole; intro h' o' F' N' d'; (try dsimp only at N'); (try k_sweep)) | ((with_reducible show wpAny _ _ (getMethod (Value.ref _) (PySem.Str.ofString "index") _) _ _ _); (k_dflt (refine' meth_30 ?F ?X ?_)); (case F => k_asm); (case X => k_asm)) | ((with_reducible show wpAny _ _ (exec (Stmt.Raise (some _) none _) _) _ _ _); (refine Raise_new rfl ?_)) | ((with_reducible show wpAny _ _ (leaving _ _) _ _ _); (k_dflt (refine' leave_made ?K ?F ?N ?x ?_)); (case K => assumption); (case x => assumption); (case F => k_asm); (case N => k_asm); k_whole; intro h9 R9 U9; (refine hrex _ _ _ _ _ _ _ ?_ ?_ (Or.inl ⟨rfl, by omega⟩) ?tr1 ?tr2 (RaisedN.sub R9 ?sub) FG' U9 (by assumption); (case sub => refine led_sub ?_ ?_ ?_; (k_mem); (k_mem); repeat (first | exact fun _ hq9 => hq9 | refine led_in ?_)); (case tr1 => assumption); (case tr2 => assumption))) |  ((fail_if_success (with_reducible show wpAny _ _ (leaving _ _) _ _ _)); (fail_if_success (with_reducible show wpAny _ _ (getMethod (Value.ref _) (PySem.Str.ofString "pop") _) _ _ _)); (fail_if_success (with_reducible show wpAny _ _ (noteFrame _ _) _ _ _)); first | (k_unfold; (try dsimp only)) | (k_end; wrow_close) | walk1 | (dsimp only; walk1) | (leave1; (try dsimp only))))
  · refine Exists.elim (tz_one (x := x) (i := i9) (by omega) (by omega) (by omega) (by omega) nd9 in9 (fun _ => rfl) (fun _ => rfl) rfl rfl) fun j9 jj9 => ?_
    have adj9 := jj9.1
    have jb9 := jj9.2
    (k_dflt (refine' meth_pop_N ?N ?m ?s ?n ?_)); (case N => k_asm); (case m => k_mem); (case s => assumption); (case n => rw [adj9]; show 1 < scanBound; decide)
    repeat' (first | ((with_reducible show wpAny _ _ (call (Value.builtin "set.pop") _) _ _ _); (k_dflt (refine' call_pop_N ?F ?N ?lt ?so ?hx ?_)); (case F => k_asm); (case N => k_asm); (case so => assumption); (case hx => assumption); (case lt => assumption); k_whole; intro h9 d9 tk9 F9 N9; (try dsimp only); (try k_sweep)) |  ((fail_if_success (with_reducible show wpAny _ _ (leaving _ _) _ _ _)); first | (k_unfold; (try dsimp only)) | (k_end; wrow_close) | walk1 | (dsimp only; walk1) | (leave1; (try dsimp only))))
    (refine hret _ [] _ _ _ _ ?_ ?_ ⟨by omega, by omega, i9, j9, by omega, by omega, by assumption, jb9.1, jb9.2.1, jb9.2.2.1, jb9.2.2.2, IntR.mk' rfl⟩ ?tr1 ?tr2 (by assumption) (cb_drop (by assumption) ?sub) (by assumption); (case sub => refine led_sub ?_ ?_ ?_; (k_mem); (k_mem); repeat (first | exact fun _ hq9 => hq9 | refine led_in ?_)); (case tr1 => assumption); (case tr2 => assumption))
  · (k_dflt (refine' catch_as (T' := "ValueError") ?K ?F ?N ?x BO.1 BO.2 ?ex PyProof.Rows.Boot.«ValueError» (by decide) PySem.F.isExc_ValueError PySem.F.notTuple_ValueError ?hs ?_)); (case K => assumption); (case x => assumption); (case hs => rw [isSubtype_type]; kernel_rfl); (case F => k_asm); (case N => k_asm); (case ex => k_is); k_whole; intro hX gX tkX TX oeX oTX vsX tsX qa qb qc qd F9 N9 K9 X9 T9 U8; (try dsimp only)
    (k_dflt (refine' suite_from PySem.F.excCall_ValueError PySem.F.excRaise_ValueError PySem.F.excRaise_ValueError ?zK ?zF ?zN ?zhn qa qb qc ?zX ?zT ?zex PyProof.Rows.Boot.«ValueError» (by decide) ?_)); (case zK => assumption); (case zF => k_asm); (case zN => k_asm); (case zhn => rfl); (case zX => assumption); (case zT => assumption); (case zex => k_is); k_whole
    repeat' (first | ((with_reducible show wpAny _ _ (call (Value.builtin "str.format") _) _ _ _); (k_dflt (refine' fmt_tz ?l ?_)); (case l => exact (names_len _ (by assumption)).2); k_whole; intro T9 t9 n9; (try dsimp only)) |  (first | (k_unfold; (try dsimp only)) | (k_end; wrow_close) | walk1 | (dsimp only; walk1) | (leave1; (try dsimp only))))
    refine argQ_mk (by assumption) rfl (by assumption) ?_
    intro h9 tk9 e9 nt9; (try dsimp only)
    refine leave_noted nt9 ?_; intro h8 R9 U9
    (refine hrex _ _ _ _ _ _ _ ?_ ?_ (Or.inr ⟨rfl, by omega, by omega, by assumption⟩) ?tr1 ?tr2 (RaisedN.sub R9 ?sub) FG' (Heap.UpToSlots.trans U8 U9) (by assumption); (case sub => refine led_sub ?_ ?_ ?_; (k_mem); (k_mem); repeat (first | exact fun _ hq9 => hq9 | refine led_in ?_)); (case tr1 => assumption); (case tr2 => assumption))
end Mine
set_option maxRecDepth 100000
namespace Mine
/-- a value but for its token -/
inductive PV where
  | int (i : Int)
  | str (x : Str)
  | none
  | bool (b : Bool)
  | ref (a : Addr)
  | un
/-- the content of a cell that nothing was stored in -/
def PV.isUn : PV → Bool
  | .un => true
  | _ => false
def PV.Is : PV → Value → Prop
  | .int i, v => ∃ t, v = .int i t
  | .str x, v => ∃ t, v = .str x t
  | .none, v => v = .none
  | .bool b, v => v = .bool b
  | .ref a, v => v = .ref a
  | .un, _ => False
def AllIs : List PV → List Value → Prop
  | [], vs => vs = []
  | p :: ps, vs => ∃ v r, vs = v :: r ∧ p.Is v ∧ AllIs ps r
abbrev pw := PySem.Challenge.pw_ja0020_01
/-- the world and what the top means -/
structure Wd where
  w : World
  mean : ExcName → Option Value
  mg : Str → Option Value
  mb : Str → Option Value
/-- a frame that runs a def: led₀ what stood in the ledger when it was entered, post what it may give back, relE what it may raise -/
structure Cx where
  dp : Nat
  un : Nat
  gd : Option (List Code)
  cn : Str
  cs : Scope
  a : Addr
  ccd : Value
  cl : List (Str × Addr)
  outer : List Env
  A₀ : Around
  base : Heap
  h₀ : Heap
  L : Addr
  led₀ : Led
  post : PV → Led → Prop
  relE : String → Prop
  pre : List GenState
def Cx.A (c : Cx) : Around := ktrTop c.dp c.un c.gd c.cn c.cs c.L c.a c.ccd c.cl c.outer
def Cx.env (c : Cx) : Env := envX c.cn c.cs c.L c.a c.ccd c.cl
theorem kind_of {c : Cx} {sc : Scope} {x : Str} {k : Option NameKind} (h : c.cs = sc) (e : (envX Str.empty sc 0 0 .none []).kindOf x = k) : c.env.kindOf x = k := by subst h; exact e
structure Cx.Ok (W : Wd) (c : Cx) : Prop where
  below : Below c.A₀ c.base c.outer c.h₀
  inK : (hd.heap_39 W.w.params).In c.h₀
  top : Top p0 loose0 W.mean W.mg W.mb c.h₀
  bok : BaseOk W.w W.mean W.mg W.mb c.base
  kind : c.cs.kind = .function
  deep : c.A = c.A₀.deeper c.env
def Cx.Room (c : Cx) (k : Nat) : Prop := c.dp + k < recursionLimit ∧ c.un + 10 * k < cLine
/-- the ledger, the two code tables behind it -/
def NewsT (h₀ : Heap) (L : Addr) (h : Heap) (led : Led) : Prop := ∃ q1 q2, TriplesOk q1.toList ∧ TriplesOk q2.toList ∧ Off led ∧ News h₀ L h (T2 q1 q2 led)
abbrev Vars := List (Str × PV)
def Locals (W : Wd) (c : Cx) (m : Str → Option Value) (cells : Led) (vars : Vars) : Prop :=
  ∀ x pv, vars.lookup x = some pv → (c.env.kindOf x = some .local ∧ ∃ v, m x = some v ∧ pv.Is v) ∨ (c.env.kindOf x = some .cell ∧ ∃ r o ov, c.cl.lookup x = some r ∧ (r, o) ∈ cells ∧ o.data = .cell ov ∧ ((∃ v, ov = some v ∧ pv.Is v) ∨ (pv = .un ∧ ov = none))) ∨
    (c.env.kindOf x = some .globalImplicit ∧ ∃ v, nsIn (hd.heap_39 W.w.params) mainGlobals x = some (some v) ∧ pv.Is v)
structure At (W : Wd) (c : Cx) (vars : Vars) (led : Led) (s : Shared) : Prop where
  ok : c.Ok W
  sub : ∀ p ∈ c.led₀, p ∈ led
  ex : ∃ m cells, Fr c.h₀ c.L s.heap m ∧ Locals W c m cells vars ∧ NewsT c.h₀ c.L s.heap (cells ++ led) ∧ GP c.pre s.gens
/-- an exception that has come out of a call -/
def Gone (c : Cx) (led : Led) (X : String) (e : Addr) (s : Shared) : Prop :=
  ∃ G m q1 q2, TriplesOk q1.toList ∧ TriplesOk q2.toList ∧ Fr c.h₀ c.L G m ∧ G.UpToSlots s.heap ∧ RaisedN c.base (c.env :: c.outer) e (.type X) (T2 q1 q2 led) s.heap ∧ GP c.pre s.gens
/-- an exception in the frame's own code -/
def Hurt (c : Cx) (X : String) (e : Addr) (s : Shared) : Prop :=
  ∃ led, (∀ p ∈ c.led₀, p ∈ led) ∧ (Gone c led X e s ∨ (∃ h m, Fr c.h₀ c.L h m ∧ NewsT c.h₀ c.L h led ∧ Heap.NewExc h s.heap e X ∧ GP c.pre s.gens) ∨
    ∃ g q1 q2, TriplesOk q1.toList ∧ TriplesOk q2.toList ∧ c.h₀.UpToSlots g ∧ Noted c.base g c.env c.outer c.L (T2 q1 q2 led) e (.type X) s.heap ∧ GP c.pre s.gens)
def Bad (c : Cx) (os : OsState) (E : Value → Shared → Prop) : Prop := ∀ X e s', c.relE X → Hurt c X e s' → s'.os = os → E (.ref e) s'
/-- what the end of the frame's body is followed by -/
def Dn (c : Cx) (os : OsState) (Q : Flow → Shared → Prop) : Prop :=
  ∀ v pv own led m s', c.post pv own → pv.Is v → Fr c.h₀ c.L s'.heap m → NewsT c.h₀ c.L s'.heap led → (∀ p ∈ own ++ c.led₀, p ∈ led) → GP c.pre s'.gens → s'.os = os → Q (.ret v) s'
def Wx (W : Wd) (c : Cx) (vars : Vars) (led : Led) (e : Expr) (Φ : PV → Led → Prop) : Prop :=
  ∀ (s : Shared) (Q E : Value → Shared → Prop), At W c vars led s → (∀ v pv led' s', Φ pv led' → pv.Is v → At W c vars led' s' → s'.os = s.os → Q v s') → Bad c s.os E → wpAny (model pw W.w) c.A (eval e c.env) Q E s
/-- N tells what is known where the body falls through -/
def Bd (W : Wd) (c : Cx) (vars : Vars) (led : Led) (body : List Stmt) (N : Vars → Led → Prop) : Prop :=
  ∀ (s : Shared) (Q : Flow → Shared → Prop) (E : Value → Shared → Prop), At W c vars led s → Dn c s.os Q → (∀ vars' led' s', N vars' led' → At W c vars' led' s' → s'.os = s.os → Q .next s') → Bad c s.os E → wpAny (model pw W.w) c.A (execs body c.env) Q E s
/-- a contract at one frame -/
def FnC (W : Wd) (c : Cx) (f : Addr) (k : Nat) (args : List PV) (req : Led) (post : PV → Led → Prop) (relE : String → Prop) : Prop :=
  ∀ (s : Shared) (vs : List Value) (m : Str → Option Value) (led : Led) (Q E : Value → Shared → Prop), c.Ok W → c.Room k → AllIs args vs → Fr c.h₀ c.L s.heap m → NewsT c.h₀ c.L s.heap led → GP c.pre s.gens → (∀ p ∈ req, p ∈ led) →
    (∀ v pv own s', post pv own → pv.Is v → Fr c.h₀ c.L s'.heap m → NewsT c.h₀ c.L s'.heap (own ++ led) → GP c.pre s'.gens → s'.os = s.os → Q v s') →
    (∀ X e s', relE X → Gone c led X e s' → s'.os = s.os → E (.ref e) s') →
    wpAny (model pw W.w) c.A (call (.ref f) vs) Q E s
/-- a contract -/
def Fn (W : Wd) (f : Addr) (k : Nat) (args : List PV) (req : Led) (post : PV → Led → Prop) (relE : String → Prop) : Prop := ∀ c : Cx, FnC W c f k args req post relE

section
variable {W : Wd} {c : Cx} {vars : Vars} {led : Led} {Φ : PV → Led → Prop}
theorem At.toks {s : Shared} (a : At W c vars led s) (n : Nat) : At W c vars led { s with toks := n } := ⟨a.ok, a.sub, a.ex⟩

theorem name_ok {x : Str} {pv : PV} {p : Pos} {s : Shared} {Q E : Value → Shared → Prop} (hv : vars.lookup x = some pv) (hd' : (pv.isUn || x == ("__debug__" : Str)) = false) (a : At W c vars led s) (hq : ∀ v, pv.Is v → Q v s) : wpAny (model pw W.w) c.A (eval (.Name x p) c.env) Q E s := by
  obtain ⟨m, cells, F, l, ⟨q1, q2, t1, t2, off, N⟩, G⟩ := a.ex
  obtain ⟨hu, hd⟩ := Bool.or_eq_false_iff.mp hd'
  rcases l x pv hv with ⟨hk, v, hm, hi⟩ | ⟨hk, r, o, _, hc, hr, ho, ⟨v, rfl, hi⟩ | ⟨rfl, _⟩⟩ | ⟨hk, v, he, hi⟩
  · exact nameX_L F hm (hq v hi) a.ok.kind hk hd
  · exact nameX_C N hc (List.mem_cons_of_mem _ (List.mem_cons_of_mem _ (List.mem_append_left _ hr))) ho (hq v hi) a.ok.kind hk hd
  · exact absurd hu (by decide)
  · exact nameX_K F a.ok.inK (topRead_of a.ok.top) he (hq v hi) a.ok.kind hk hd
/-- the arithmetic -/
inductive Ar : Operator → Int → Int → Int → Prop
  | add (i j) : Ar .Add i j (i + j)
  | sub (i j) : Ar .Sub i j (i - j)
  | mul (i j) : IntMulOk i j → Ar .Mult i j (i * j)
  | div (i j) : 0 < j ∧ j < 1073741824 → Ar .FloorDiv i j (i / j)
  | mod (i j) : 0 < j → Ar .Mod i j (i % j)
  | pow (i j) : 0 ≤ j ∧ j ≤ 20 ∧ i.natAbs < 1000 → Ar .Pow i j (i ^ j.toNat)
theorem ar_ok {op : Operator} {i j r : Int} {t u : Tok} {A : Around} {s : Shared} {Q E : Value → Shared → Prop} (h : Ar op i j r) (hq : ∀ tk n, Q (.int r tk) { s with toks := n }) : wpAny (model pw W.w) A (binaryOp op (.int i t) (.int j u)) Q E s := by
  cases h with
  | add => exact PyProof.Rows.add_int (hq _ _)
  | sub => exact PyProof.Rows.sub_int (hq _ _)
  | mul _ _ h => exact PySem.P.mul_int (hq _ _) h
  | div _ _ h =>
    refine PyProof.Rows.floordiv_int (Int.ne_of_gt h.1) ?_ (Or.inl (PyProof.noPylong_small (by omega)))
    rw [fdiv_pos _ (Int.le_of_lt h.1)]; exact hq _ _
  | mod _ _ h =>
    refine PyProof.Rows.mod_int (Int.ne_of_gt h) ?_
    rw [fmod_pos _ (Int.le_of_lt h)]; exact hq _ _
  | pow _ _ h => exact PyProof.Rows.pow_int_small h.1 (by omega) (by omega) (hq _ _)
/-- an expression of names, literals and arithmetic, and what it gives -/
inductive Pe (vars : Vars) : Expr → PV → Prop
  | name {x pv p} : vars.lookup x = some pv → (pv.isUn || x == ("__debug__" : Str)) = false → Pe vars (.Name x p) pv
  | int {i k p} : Pe vars (.Constant (.int i) k p) (.int i)
  | str {x k p} : Pe vars (.Constant (.str x) k p) (.str x)
  | bool {b k p} : Pe vars (.Constant (.bool b) k p) (.bool b)
  | none {k p} : Pe vars (.Constant .none k p) .none
  | neg {a i p} : Pe vars a (.int i) → Pe vars (.UnaryOp .USub a p) (.int (-i))
  | bin {a op b i j r p} : Pe vars a (.int i) → Pe vars b (.int j) → Ar op i j r → Pe vars (.BinOp a op b p) (.int r)
theorem pe_ok {e : Expr} {pv : PV} (h : Pe vars e pv) : ∀ {s : Shared} {Q E : Value → Shared → Prop}, At W c vars led s → (∀ v k, pv.Is v → Q v { s with toks := k }) → wpAny (model pw W.w) c.A (eval e c.env) Q E s := by
  induction h with
  | name hv hd => exact fun a hq => name_ok hv hd a fun v hi => hq v _ hi
  | int => exact fun a hq => wpAny_Constant_int (hq _ _ ⟨_, rfl⟩)
  | str => exact fun a hq => wpAny_Constant_str (hq _ _ ⟨_, rfl⟩)
  | bool => exact fun a hq => wpAny_Constant_bool (hq _ _ rfl)
  | none => exact fun a hq => wpAny_Constant_none (hq _ _ rfl)
  | neg _ ih => exact fun a hq => wpAny_UnaryOp (ih a fun v k hv => let ⟨t, e⟩ := hv; e ▸ PyProof.Rows.neg_int (hq _ _ ⟨_, rfl⟩))
  | bin _ _ hb ih ih2 => exact fun a hq => wpAny_BinOp (ih a fun v k hv => ih2 (a.toks k) fun v2 k2 hv2 => let ⟨t, e⟩ := hv; let ⟨t2, e2⟩ := hv2; e ▸ e2 ▸ ar_ok hb fun tk n => hq _ _ ⟨_, rfl⟩)

theorem x_pure {e : Expr} {pv : PV} (h : Pe vars e pv) (hq : Φ pv led) : Wx W c vars led e Φ :=
  fun s _ _ a q _ => pe_ok h a fun v k hv => q v pv led { s with toks := k } hq hv (a.toks k) rfl
/-- both sides of an operation may call -/
theorem x_bin {a b : Expr} {op : Operator} {p : Pos} (h : Wx W c vars led a fun pa l1 => Wx W c vars l1 b fun pb l2 => ∃ i j r, pa = .int i ∧ pb = .int j ∧ Ar op i j r ∧ Φ (.int r) l2) : Wx W c vars led (.BinOp a op b p) Φ := by
  intro s Q E at_ q bad
  refine wpAny_BinOp (h s _ _ at_ (fun v pv led' s' hw hv at' os' => ?_) bad)
  refine hw s' _ _ at' (fun v2 pv2 led2 s2 h2 hv2 at2 os2 => ?_) (fun X e s3 r1 r2 r3 => bad X e s3 r1 r2 (r3.trans os'))
  obtain ⟨i, j, r, rfl, rfl, hb, hΦ⟩ := h2
  obtain ⟨t, rfl⟩ := hv
  obtain ⟨t2, rfl⟩ := hv2
  exact ar_ok hb fun tk n => q _ _ _ { s2 with toks := n } hΦ ⟨_, rfl⟩ (at2.toks n) (os2.trans os')
theorem locals_set {m : Str → Option Value} {cells : Led} {x : Str} {pv : PV} {v : Value} (l : Locals W c m cells vars) (hx : c.env.kindOf x = some .local) (hv : pv.Is v) : Locals W c (fun y => if y = x then some v else m y) cells ((x, pv) :: vars) := by
  intro y py hy
  rw [List.lookup_cons] at hy
  by_cases e : y = x
  · subst e
    simp only [beq_self_eq_true] at hy
    cases hy
    exact .inl ⟨hx, v, if_pos rfl, hv⟩
  · have hb : (y == x) = false := by simpa using e
    rw [hb] at hy
    rcases l y py hy with ⟨hk, u, hm, hi⟩ | r
    · exact .inl ⟨hk, u, (if_neg e).trans hm, hi⟩
    · exact .inr r
theorem st_local {x : Str} {pv : PV} {v : Value} {s : Shared} {Q : Unit → Shared → Prop} {E : Value → Shared → Prop} (hx : c.env.kindOf x = some .local) (hv : pv.Is v) (a : At W c vars led s) (h : ∀ s', At W c ((x, pv) :: vars) led s' → s'.os = s.os → Q () s') : wpAny (model pw W.w) c.A (storeName c.env x v) Q E s := by
  obtain ⟨m, cells, F, l, ⟨q1, q2, t1, t2, off, N⟩, G⟩ := a.ex
  exact storeX_L F N (fun h' F' N' => h _ ⟨a.ok, a.sub, _, cells, F', locals_set l hx hv, ⟨q1, q2, t1, t2, off, N'⟩, G⟩ rfl) a.ok.kind hx
theorem st_cell {x : Str} {r : Addr} {pv pv0 : PV} {v : Value} {s : Shared} {Q : Unit → Shared → Prop} {E : Value → Shared → Prop} (hx : c.env.kindOf x = some .cell) (hr : c.cl.lookup x = some r) (h0 : vars.lookup x = some pv0) (inj : ∀ y, c.cl.lookup y = some r → y = x) (hv : pv.Is v)
    (hled : ∀ p ∈ led, p.1 ≠ r ∨ ∀ u, p.2.data ≠ .cell u) (a : At W c vars led s) (h : ∀ s', At W c ((x, pv) :: vars) led s' → s'.os = s.os → Q () s') : wpAny (model pw W.w) c.A (storeName c.env x v) Q E s := by
  obtain ⟨m, cells, F, l, ⟨q1, q2, t1, t2, off, N⟩, G⟩ := a.ex
  rcases l x pv0 h0 with ⟨hk, _⟩ | ⟨_, r', o, ov, hc, hm, hod, _⟩ | ⟨hk, _⟩
  · rw [hx] at hk; cases hk
  · obtain rfl : r' = r := Option.some.inj (hc.symm.trans hr)
    have hmem := N (r', o) (List.mem_cons_of_mem _ (List.mem_cons_of_mem _ (List.mem_append_left _ hm)))
    refine wpAny_storeName_cell a.ok.kind hx hc ⟨o, hmem.1, hod⟩ fun h' hv' hs => ?_
    obtain ⟨o', ho', hd'⟩ := hv'
    have ne : ∀ p ∈ T2 q1 q2 (cells ++ led), (∀ u, p.2.data ≠ .cell u) → p.1 ≠ r' := fun p hp hd e => by
      have := (N p hp).1
      rw [e, hmem.1] at this
      cases this
      exact hd _ hod
    have kp : ∀ p ∈ T2 q1 q2 (cells ++ led), p.1 ≠ r' → h'.get? p.1 = some p.2 ∧ p.1 ≠ c.L ∧ c.h₀.get? p.1 = none := fun p hp hn => ⟨(hs.2 _ hn).trans (N p hp).1, (N p hp).2⟩
    have offr : r' ≠ 95 ∧ r' ≠ 124 := off (r', o) (List.mem_append_left _ hm)
    refine h { s with heap := h' } ⟨a.ok, a.sub, m, cells.map (fun p => if p.1 = r' then (r', o') else p), ⟨F.ns.sameBut hs (Ne.symm hmem.2.1), fun b ob e => (hs.2 b (fun q => ?_)).trans (F.keep b ob e), F.above⟩, ?_, ⟨q1, q2, t1, t2, ?_, ?_⟩, G⟩ rfl
    · rw [q, hmem.2.2] at e; cases e
    · intro y py hy
      rw [List.lookup_cons] at hy
      by_cases e : y = x
      · subst e
        simp only [beq_self_eq_true] at hy
        cases hy
        exact .inr (.inl ⟨hx, r', o', some v, hc, List.mem_map.mpr ⟨_, hm, if_pos rfl⟩, hd', .inl ⟨v, rfl, hv⟩⟩)
      · have hb : (y == x) = false := by simpa using e
        rw [hb] at hy
        rcases l y py hy with h1 | ⟨hk, r2, o2, ov2, hc2, hm2, hd2, hi2⟩ | h3
        · exact .inl h1
        · exact .inr (.inl ⟨hk, r2, o2, ov2, hc2, List.mem_map.mpr ⟨_, hm2, if_neg fun e2 => e (inj y (by rw [← (show r2 = r' from e2)]; exact hc2))⟩, hd2, hi2⟩)
        · exact .inr (.inr h3)
    · intro p hp
      rcases List.mem_append.mp hp with hp | hp
      · obtain ⟨p0, hp0, rfl⟩ := List.mem_map.mp hp
        by_cases e : p0.1 = r'
        · rw [if_pos e]; exact offr
        · rw [if_neg e]; exact off p0 (List.mem_append_left _ hp0)
      · exact off p (List.mem_append_right _ hp)
    · intro p hp
      rcases List.mem_cons.mp hp with rfl | hp
      · exact kp _ (.head _) (ne _ (.head _) (by intro u e; cases e))
      · rcases List.mem_cons.mp hp with rfl | hp
        · exact kp _ (.tail _ (.head _)) (ne _ (.tail _ (.head _)) (by intro u e; cases e))
        · rcases List.mem_append.mp hp with hp | hp
          · obtain ⟨p0, hp0, rfl⟩ := List.mem_map.mp hp
            by_cases e : p0.1 = r'
            · rw [if_pos e]; exact ⟨ho', hmem.2⟩
            · rw [if_neg e]; exact kp _ (.tail _ (.tail _ (List.mem_append_left _ hp0))) e
          · have hp9 : p ∈ T2 q1 q2 (cells ++ led) := .tail _ (.tail _ (List.mem_append_right _ hp))
            rcases hled p hp with h1 | h1
            · exact kp _ hp9 h1
            · exact kp _ hp9 (ne _ hp9 h1)
  · rw [hx] at hk; cases hk
theorem b_assign {x : Str} {e : Expr} {p p' : Pos} {rest : List Stmt} {N : Vars → Led → Prop} (hx : c.env.kindOf x = some .local) (h : Wx W c vars led e fun pv led' => Bd W c ((x, pv) :: vars) led' rest N) (hs : swapsWith e (some (.Name x p')) p.line c.env = pure false := by rfl) :
    Bd W c vars led (.Assign [.Name x p'] e p :: rest) N := by
  intro s Q E a dn nx bad
  refine wpAny_execs_cons (wpAny_Assign_Name (h s _ _ a (fun v pv led' s' hb hv a' os' => ?_) bad) hs)
  refine st_local hx hv a' fun s2 a2 os2 => ?_
  exact hb s2 Q E a2 (by rw [os2, os']; exact dn) (by rw [os2, os']; exact nx) (by rw [os2, os']; exact bad)
theorem b_assign_c {x : Str} {r : Addr} {pv0 : PV} {e : Expr} {p p' : Pos} {rest : List Stmt} {N : Vars → Led → Prop} (hx : c.env.kindOf x = some .cell) (hr : c.cl.lookup x = some r) (h0 : vars.lookup x = some pv0) (inj : ∀ y, c.cl.lookup y = some r → y = x) (h : Wx W c vars led e fun pv led' => (∀ p ∈ led', p.1 ≠ r ∨ ∀ u, p.2.data ≠ .cell u) ∧ Bd W c ((x, pv) :: vars) led' rest N) (hs : swapsWith e (some (.Name x p')) p.line c.env = pure false := by rfl) :
    Bd W c vars led (.Assign [.Name x p'] e p :: rest) N := by
  intro s Q E a dn nx bad
  refine wpAny_execs_cons (wpAny_Assign_Name (h s _ _ a (fun v pv led' s' hb hv a' os' => ?_) bad) hs)
  refine st_cell hx hr h0 inj hv hb.1 a' fun s2 a2 os2 => ?_
  exact hb.2 s2 Q E a2 (by rw [os2, os']; exact dn) (by rw [os2, os']; exact nx) (by rw [os2, os']; exact bad)
/-- the end of a body -/
def Ends (c : Cx) (pv : PV) (led : Led) : Prop := ∃ own, c.post pv own ∧ ∀ p ∈ own ++ c.led₀, p ∈ led
theorem at_dn {v : Value} {pv : PV} {s' : Shared} {os : OsState} {Q : Flow → Shared → Prop} (dn : Dn c os Q) (a : At W c vars led s') (h : Ends c pv led) (hv : pv.Is v) (ho : s'.os = os) : Q (.ret v) s' := by
  obtain ⟨own, hp, hs⟩ := h
  obtain ⟨m, cells, F, l, ⟨q1, q2, t1, t2, off, N⟩, G⟩ := a.ex
  exact dn v pv own (cells ++ led) m s' hp hv F ⟨q1, q2, t1, t2, off, N⟩ (fun p hm => List.mem_append_right _ (hs p hm)) G ho
theorem b_return {e : Expr} {p : Pos} {rest : List Stmt} {N : Vars → Led → Prop} (h : Wx W c vars led e (Ends c)) : Bd W c vars led (.Return (some e) p :: rest) N := by
  intro s Q E a dn nx bad
  exact wpAny_execs_cons (wpAny_Return_some (h s _ _ a (fun v pv led' s' he hv a' os' => at_dn dn a' he hv os') bad))

/-- the arguments of a call -/
def Ax (W : Wd) (c : Cx) (vars : Vars) (led : Led) (args : List Expr) (Ψ : List PV → Led → Prop) : Prop :=
  ∀ (s : Shared) (Q : List Value → Shared → Prop) (E : Value → Shared → Prop) (p : Pos), At W c vars led s → (∀ vs pvs led' s', Ψ pvs led' → AllIs pvs vs → At W c vars led' s' → s'.os = s.os → Q vs s') → Bad c s.os E → wpAny (model pw W.w) c.A (spliced (backTo p (starEach args c.env))) Q E s
theorem a_nil {Ψ : List PV → Led → Prop} (h : Ψ [] led) : Ax W c vars led [] Ψ := fun s _ _ _ a q _ => args_nil (q [] [] led s h rfl a rfl)
theorem a_cons {e : Expr} {rest : List Expr} {Ψ : List PV → Led → Prop} (h : Wx W c vars led e fun pv l1 => Ax W c vars l1 rest fun pvs l2 => Ψ (pv :: pvs) l2) (he : starEach (e :: rest) c.env = (false, eval e c.env) :: starEach rest c.env := by rfl) : Ax W c vars led (e :: rest) Ψ := by
  intro s Q E p a q bad
  refine args_cons (h s _ _ a (fun v pv led' s' hw hv a' os' => ?_) bad) he
  refine hw s' _ _ p a' (fun vs pvs led2 s2 h2 hvs a2 os2 => ?_) (fun X e s3 r1 r2 r3 => bad X e s3 r1 r2 (r3.trans os'))
  exact q _ _ _ s2 h2 ⟨v, vs, rfl, hv, hvs⟩ a2 (os2.trans os')
theorem pe_plain {e : Expr} {pv : PV} {rest : List Expr} {env : Env} (h : Pe vars e pv) : starEach (e :: rest) env = (false, eval e env) :: starEach rest env := by
  cases h <;> rfl
theorem a_pure {e : Expr} {rest : List Expr} {pv : PV} {Ψ : List PV → Led → Prop} (h : Pe vars e pv) (h2 : Ax W c vars led rest fun pvs l2 => Ψ (pv :: pvs) l2) : Ax W c vars led (e :: rest) Ψ := a_cons (x_pure h h2) (pe_plain h)
theorem newsT_perm {h₀ h : Heap} {L : Addr} {l l' : Led} (n : NewsT h₀ L h l) (e : ∀ p, p ∈ l' → p ∈ l) : NewsT h₀ L h l' := by
  obtain ⟨q1, q2, t1, t2, off, N⟩ := n
  exact ⟨q1, q2, t1, t2, fun p hp => off p (e p hp), fun p hp => N p (by
    simp only [T2, List.mem_cons] at hp ⊢
    rcases hp with h | h | h
    · exact .inl h
    · exact .inr (.inl h)
    · exact .inr (.inr (e p h)))⟩
/-- a call of one of the program's functions -/
theorem x_fnC {f : Str} {fa : Addr} {x : Expr} {r : List Expr} {k : Nat} {pvs : List PV} {req : Led} {post : PV → Led → Prop} {relE' : String → Prop} {p p' : Pos} (C : FnC W c fa k pvs req post relE') (e : nsIn (hd.heap_39 W.w.params) mainGlobals f = some (some (.ref fa)))
    (hr : c.Room k) (hE : ∀ X, relE' X → c.relE X) (h : Ax W c vars led (x :: r) fun ps l1 => ps = pvs ∧ (∀ q ∈ req, q ∈ l1) ∧ ∀ pv own, post pv own → Φ pv (own ++ l1)) 
    (hf : c.env.kindOf f = some .globalImplicit := by first | rfl | exact kind_of (by assumption) rfl) (hdb : (f == ("__debug__" : Str)) = false := by decide) (hfn : ∃ o fd, (hd.heap_39 W.w.params).lookup fa = some o ∧ o.data = .func fd := by exact ⟨_, _, rfl, rfl⟩)
    (he : starEach (x :: r) c.env = (false, eval x c.env) :: starEach r c.env := by rfl) : Wx W c vars led (.Call (.Name f p) (x :: r) [] p') Φ := by
  intro s Q E a q bad
  obtain ⟨m0, cells0, F0, _, _, _⟩ := a.ex
  obtain ⟨o, fd, ho, hod⟩ := hfn
  refine Call_ (nameX_K F0 a.ok.inK (topRead_of a.ok.top) e ?_ a.ok.kind hf hdb)
  have go : ∀ vs ps l1 (s1 : Shared), (ps = pvs ∧ (∀ q ∈ req, q ∈ l1) ∧ ∀ pv own, post pv own → Φ pv (own ++ l1)) → AllIs ps vs → At W c vars l1 s1 → s1.os = s.os → s1.heap.get? fa = some o ∧ wpAny (model pw W.w) c.A (call (.ref fa) vs) Q E s1 := by
    rintro vs ps l1 s1 ⟨rfl, hreq, hΦ⟩ hvs a1 os1
    obtain ⟨m, cells, F, l, NT, G⟩ := a1.ex
    refine ⟨(Frag.In.keeps a1.ok.inK F.keep) _ _ ho, C s1 vs m (cells ++ l1) Q E a1.ok hr hvs F NT G (fun p hp => List.mem_append_right _ (hreq p hp)) (fun v pv own s2 hp hv F2 NT2 G2 os2 => ?_) fun X e s2 hX hG os2 => ?_⟩
    · refine q v pv (own ++ l1) s2 (hΦ pv own hp) hv ⟨a1.ok, fun p hm => List.mem_append_right _ (a1.sub p hm), m, cells, F2, l, newsT_perm NT2 fun p hm => ?_, G2⟩ (os2.trans os1)
      rcases List.mem_append.mp hm with h | h
      · exact List.mem_append_right _ (List.mem_append_left _ h)
      · rcases List.mem_append.mp h with h | h
        · exact List.mem_append_left _ h
        · exact List.mem_append_right _ (List.mem_append_right _ h)
    · exact bad X e s2 (hE X hX) ⟨cells ++ l1, fun p hm => List.mem_append_right _ (a1.sub p hm), .inl hG⟩ (os2.trans os1)
  exact callWith_def hod (h s (fun vs s1 => s1.heap.get? fa = some o ∧ wpAny (model pw W.w) c.A (call (.ref fa) vs) Q E s1) E p' a (fun vs ps l1 s1 hps hvs a1 os1 => go vs ps l1 s1 hps hvs a1 os1) bad) he

theorem x_fn {f : Str} {fa : Addr} {x : Expr} {r : List Expr} {k : Nat} {pvs : List PV} {req : Led} {post : PV → Led → Prop} {relE' : String → Prop} {p p' : Pos} (C : Fn W fa k pvs req post relE') (e : nsIn (hd.heap_39 W.w.params) mainGlobals f = some (some (.ref fa)))
    (hr : c.Room k) (hE : ∀ X, relE' X → c.relE X) (h : Ax W c vars led (x :: r) fun ps l1 => ps = pvs ∧ (∀ q ∈ req, q ∈ l1) ∧ ∀ pv own, post pv own → Φ pv (own ++ l1)) 
    (hf : c.env.kindOf f = some .globalImplicit := by first | rfl | exact kind_of (by assumption) rfl) (hdb : (f == ("__debug__" : Str)) = false := by decide) (hfn : ∃ o fd, (hd.heap_39 W.w.params).lookup fa = some o ∧ o.data = .func fd := by exact ⟨_, _, rfl, rfl⟩)
    (he : starEach (x :: r) c.env = (false, eval x c.env) :: starEach r c.env := by rfl) : Wx W c vars led (.Call (.Name f p) (x :: r) [] p') Φ := x_fnC (C c) e hr hE h hf hdb hfn he

/-- a name of the top, told once -/
theorem b_glob {x : Str} {v : Value} {pv : PV} {body : List Stmt} {N : Vars → Led → Prop} (e : nsIn (hd.heap_39 W.w.params) mainGlobals x = some (some v)) (h : Bd W c ((x, pv) :: vars) led body N) (hv : pv.Is v) (hk : c.env.kindOf x = some .globalImplicit := by first | rfl | exact kind_of (by assumption) rfl) : Bd W c vars led body N := by
  intro s Q E a dn nx bad
  obtain ⟨m, cells, F, l, NT, G⟩ := a.ex
  refine h s Q E ⟨a.ok, a.sub, m, cells, F, fun y py hy => ?_, NT, G⟩ dn nx bad
  rw [List.lookup_cons] at hy
  cases hb : y == x with
  | true => rw [hb] at hy; cases hy; rw [eq_of_beq hb]; exact .inr (.inr ⟨hk, v, e, hv⟩)
  | false => rw [hb] at hy; exact l y py hy

theorem b_nil {N : Vars → Led → Prop} (h : N vars led) : Bd W c vars led [] N := fun s _ _ a _ nx _ => wpAny_execs_nil (nx _ _ s h a rfl)
/-- a test -/
def Tx (W : Wd) (c : Cx) (vars : Vars) (led : Led) (e : Expr) (Ψ : Bool → Led → Prop) : Prop :=
  ∀ (s : Shared) (Q : Bool → Shared → Prop) (E : Value → Shared → Prop), At W c vars led s → (∀ b led' s', Ψ b led' → At W c vars led' s' → s'.os = s.os → Q b s') → Bad c s.os E → wpAny (model pw W.w) c.A (isTrue e c.env (eval e c.env)) Q E s
/-- what a comparison gives; the ledger tells of the tuples -/
def Cp (W : Wd) (c : Cx) (led : Led) (op : CmpOp) (a b : PV) (r : Bool) : Prop :=
  ∀ (s : Shared) (Q E : Value → Shared → Prop) (va vb : Value) (vars : Vars), At W c vars led s → a.Is va → b.Is vb → Q (.bool r) s → wpAny (model pw W.w) c.A (compareOp op va vb) Q E s
theorem t_cmp {Ψ : Bool → Led → Prop} {a b : Expr} {op : CmpOp} {p : Pos} (h : Wx W c vars led a fun pa l1 => Wx W c vars l1 b fun pb l2 => ∃ r, Cp W c l2 op pa pb r ∧ Ψ r l2) (hm : behindInMarks op b = false := by with_unfolding_all rfl) : Tx W c vars led (.Compare a [op] [b] p) Ψ := by
  intro s Q E at_ q bad
  refine wpAny_isTrue_Compare1 (h s _ _ at_ (fun v pv led' s' hw hv at' os' => ?_) bad) hm
  refine hw s' _ _ at' (fun v2 pv2 led2 s2 h2 hv2 at2 os2 => ?_) (fun X e s3 r1 r2 r3 => bad X e s3 r1 r2 (r3.trans os'))
  obtain ⟨r, hc, hΨ⟩ := h2
  refine hc s2 _ _ v v2 vars at2 hv hv2 ?_
  exact wpAny_truthy_bool (q r led2 s2 hΨ at2 (os2.trans os'))
theorem b_if {t : Expr} {b1 b2 rest : List Stmt} {p : Pos} {N : Vars → Led → Prop}
    (h : Tx W c vars led t fun b l => (b = true → Bd W c vars l b1 fun v' l' => Bd W c v' l' rest N) ∧ (b = false → Bd W c vars l b2 fun v' l' => Bd W c v' l' rest N)) : Bd W c vars led (.If t b1 b2 p :: rest) N := by
  intro s Q E a dn nx bad
  refine wpAny_execs_cons (wpAny_If (h s _ _ a (fun b led' s' hb a' os' => ?_) bad))
  have go : ∀ bb, (Bd W c vars led' bb fun v' l' => Bd W c v' l' rest N) → wpAny (model pw W.w) c.A (execs bb c.env) (fun f s' => match f with | .next => wpAny (model pw W.w) c.A (execs rest c.env) Q E s' | f => Q f s') E s' := fun bb hbb => by
    refine hbb s' _ E a' (by rw [os']; exact fun v pv own led m s2 a1 a2 a3 a4 a5 a6 a7 => dn v pv own led m s2 a1 a2 a3 a4 a5 a6 a7) (fun v' l' s2 h2 at2 os2 => ?_) (by rw [os']; exact bad)
    exact h2 s2 Q E at2 (by rw [os2, os']; exact dn) (by rw [os2, os']; exact nx) (by rw [os2, os']; exact bad)
  cases b with
  | true => exact go b1 (hb.1 rfl)
  | false => exact go b2 (hb.2 rfl)
theorem x_ifexp {t x y : Expr} {p : Pos} (h : Tx W c vars led t fun b l => (b = true → Wx W c vars l x Φ) ∧ (b = false → Wx W c vars l y Φ)) : Wx W c vars led (.IfExp t x y p) Φ := by
  intro s Q E a q bad
  refine wpAny_IfExp (h s _ _ a (fun b led' s' hb a' os' => ?_) bad)
  cases b with
  | true => exact hb.1 rfl s' Q E a' (by rw [os']; exact q) (by rw [os']; exact bad)
  | false => exact hb.2 rfl s' Q E a' (by rw [os']; exact q) (by rw [os']; exact bad)
theorem cp_lt (i j : Int) : Cp W c led .Lt (.int i) (.int j) (decide (i < j)) := by
  rintro s Q E _ _ vars _ ⟨t, rfl⟩ ⟨u, rfl⟩ q; exact PyProof.Rows.lt_int q
theorem cp_gt (i j : Int) : Cp W c led .Gt (.int i) (.int j) (decide (j < i)) := by
  rintro s Q E _ _ vars _ ⟨t, rfl⟩ ⟨u, rfl⟩ q; exact PyProof.Rows.gt_int q
theorem cp_eq (i j : Int) : Cp W c led .Eq (.int i) (.int j) (i == j) := by
  rintro s Q E _ _ vars _ ⟨t, rfl⟩ ⟨u, rfl⟩ q; exact PyProof.Rows.eq_int q
theorem cp_ne (i j : Int) : Cp W c led .NotEq (.int i) (.int j) (i != j) := by
  rintro s Q E _ _ vars _ ⟨t, rfl⟩ ⟨u, rfl⟩ q; exact PyProof.Rows.ne_int q
end
end Mine
set_option maxRecDepth 100000
namespace Mine
theorem zip_is : ∀ {names : List Str} {pvs : List PV} {vs : List Value}, AllIs pvs vs → ∀ {x : Str} {pv : PV}, (names.zip pvs).lookup x = some pv → ∃ v, (names.zip vs).lookup x = some v ∧ pv.Is v
  | [], _, _, _, _, _, h => by simp at h
  | n :: ns, [], _, _, _, _, h => by simp at h
  | n :: ns, p :: ps, _, ⟨v, r, rfl, hv, hr⟩, x, pv, h => by
    rw [List.zip_cons_cons, List.lookup_cons] at h ⊢
    cases e : x == n with
    | true => rw [e] at h; cases h; exact ⟨v, rfl, hv⟩
    | false => rw [e] at h; exact zip_is hr h
theorem mem_look {x : Str} {v : Value} : ∀ {l : List (Str × Value)}, l.lookup x = some v → (x, v) ∈ l
  | [], h => by simp at h
  | (y, u) :: r, h => by
    rw [List.lookup_cons] at h
    cases e : x == y with
    | true => rw [e] at h; cases h; rw [eq_of_beq e]; exact List.mem_cons_self
    | false => rw [e] at h; exact List.mem_cons_of_mem _ (mem_look h)
theorem look_nd {x : Str} {v : Value} : ∀ {l : List (Str × Value)}, (l.map (·.1)).Nodup → (x, v) ∈ l → l.lookup x = some v
  | (y, u) :: r, nd, h => by
    rw [List.map_cons, List.nodup_cons] at nd
    rw [List.lookup_cons]
    rcases List.mem_cons.mp h with e | h
    · cases e; rw [beq_self_eq_true]
    · have : (x == y) = false := by
        apply Bool.eq_false_iff.mpr
        intro e
        exact nd.1 (List.mem_map.mpr ⟨(x, v), h, eq_of_beq e⟩)
      rw [this]
      exact look_nd nd.2 h
theorem zip_sub : ∀ {names : List Str} {vs : List Value}, ((names.zip vs).map (·.1)).Sublist names
  | [], _ => by simp
  | _ :: _, [] => by simp
  | n :: ns, v :: vs => by rw [List.zip_cons_cons, List.map_cons]; exact zip_sub.cons_cons n
theorem lookup_rev {names : List Str} {vs : List Value} {x : Str} {v : Value} (nd : names.Nodup) (h : (names.zip vs).lookup x = some v) : (names.zip vs).reverse.lookup x = some v := by
  refine look_nd ?_ (List.mem_reverse.mpr (mem_look h))
  rw [List.map_reverse]
  exact (List.reverse_perm _).nodup_iff.mpr (nd.sublist zip_sub)
section
variable {W : Wd}
theorem fn_enter {f : Addr} {k : Nat} {pvs : List PV} {req : Led} {post : PV → Led → Prop} {relE : String → Prop} {name qual : Str} {params : Arguments} {body : List Stmt} {scope : Scope} {dV kV doc pm cdv ct oc : Value} {an od : Option Addr} {osl : Array (Option Value)} (names : List Str)
    (ho : (hd.heap_39 W.w.params).lookup f = some ⟨oc, od, .func (fnOf name qual params body scope dV kV doc pm an cdv ct), osl⟩) (hcd : codeIn (hd.heap_39 W.w.params) cdv qual = true)
    (hbind : ∀ s vs, AllIs pvs vs → BindsTo s (fnOf name qual params body scope dV kV doc pm an cdv ct) ⟨vs, []⟩ (names.zip vs))
    (hb : ∀ c : Cx, c.cs = scope → c.post = post → c.relE = relE → c.Room k → (∀ p ∈ req, p ∈ c.led₀) → Bd W c (names.zip pvs) c.led₀ body fun _ _ => False)
    (hn : names.Nodup := by decide) (hloc : ∀ y ∈ names, scope.names.lookup y = some .local := by decide) (hcell : ∀ x ∈ scope.names, x.2 ≠ .cell := by decide)
    (hco : scope.isCoroutine = false := by rfl) (hgen : scope.isGenerator = false := by rfl) (hk : scope.kind = .function := by rfl) : Fn W f (k + 1) pvs req post relE := by
  intro c s vs m led Q E ok room hvs F ⟨q1, q2, t1, t2, off, N⟩ G hreq hret hrex
  refine wpAny_call (code_def ok.below F ok.inK N ok.top rfl rfl ok.kind ho hcd (Nat.lt_of_le_of_lt (Nat.le_add_right _ _) room.1) (hbind s vs hvs) (fun y hy => hloc _ (List.of_mem_zip hy).1) (fun g L' h₁ FG F' N' B' X' T' => ?_) hco hgen hk hcell)
  have room' : Cx.Room ⟨c.dp + 1, c.un + 3, c.gd, qual, scope, f, cdv, [], c.env :: c.outer, c.A, c.base, g, L', led, post, relE, c.pre⟩ k := by
    obtain ⟨r1, r2⟩ := room
    exact ⟨by show c.dp + 1 + k < _; omega, by show c.un + 3 + 10 * k < _; omega⟩
  refine hb ⟨c.dp + 1, c.un + 3, c.gd, qual, scope, f, cdv, [], c.env :: c.outer, c.A, c.base, g, L', led, post, relE, c.pre⟩ rfl rfl rfl room' hreq _ _ _ ⟨⟨B', X', T', ok.bok, hk, rfl⟩, fun p hp => hp, _, [], F', fun x pv hx => .inl ?_, ⟨q1, q2, t1, t2, off, N'⟩, G⟩ ?_ (fun _ _ _ h => h.elim) ?_
  · obtain ⟨v, hv, hi⟩ := zip_is hvs hx
    refine ⟨?_, v, lookup_rev hn hv, hi⟩
    exact hloc x (List.of_mem_zip (mem_look hv)).1
  · rintro v pv own ledf m1 s' hp hv F1 ⟨p1, p2, u1, u2, off1, N1⟩ hs G1 os1
    exact leaveK_ F1 N1 fun F2 N2 => hret v pv own s' hp hv F2 (newsT_perm ⟨p1, p2, u1, u2, off1, N2⟩ hs) G1 os1
  · rintro X e s' hX ⟨ledh, hsub, hH⟩ os1
    rcases hH with ⟨G0, m0, p1, p2, u1, u2, F0, U0, R0, G1⟩ | ⟨h0, m0, F0, ⟨p1, p2, u1, u2, off0, N0⟩, hx, G1⟩ | ⟨g1, p1, p2, u1, u2, U0, nt, G1⟩
    · exact leave_on B' F0 R0 U0 fun h' R1 U1 => hrex X e _ hX ⟨g, m, p1, p2, u1, u2, FG, U1, RaisedN.sub R1 (led_sub (List.mem_cons_self) (List.mem_cons_of_mem _ List.mem_cons_self) fun q hq => List.mem_cons_of_mem _ (List.mem_cons_of_mem _ (hsub q hq))), G1⟩ os1
    · exact leave_made B' F0 N0 hx (fun h' R1 U1 => hrex X e _ hX ⟨g, m, p1, p2, u1, u2, FG, U1, RaisedN.sub R1 (led_sub (List.mem_cons_self) (List.mem_cons_of_mem _ List.mem_cons_self) fun q hq => List.mem_cons_of_mem _ (List.mem_cons_of_mem _ (hsub q hq))), G1⟩ os1) hk
    · exact leave_noted nt fun h' R1 U1 => hrex X e _ hX ⟨g, m, p1, p2, u1, u2, FG, U0.trans U1, RaisedN.sub R1 (led_sub (List.mem_cons_self) (List.mem_cons_of_mem _ List.mem_cons_self) fun q hq => List.mem_cons_of_mem _ (List.mem_cons_of_mem _ (hsub q hq))), G1⟩ os1
end
end Mine
set_option maxRecDepth 100000
namespace Mine
section
variable {W : Wd} {c : Cx} {vars : Vars} {led : Led} {Φ : PV → Led → Prop}
/-- what a built-in gives of ready arguments -/
def Gv (W : Wd) (c : Cx) (f : Value) (ps : List PV) (r : PV) : Prop :=
  ∀ (s : Shared) (Q E : Value → Shared → Prop) (vs : List Value), AllIs ps vs → (∀ v k, r.Is v → Q v { s with toks := k }) → wpAny (model pw W.w) c.A (call f vs) Q E s
theorem g_int (i : Int) : Gv W c (.type "int") [.int i] (.int i) := by
  rintro s Q E _ ⟨_, _, rfl, ⟨t, rfl⟩, rfl⟩ q
  exact call_int_int (q _ s.toks ⟨_, rfl⟩)
theorem g_abs (i : Int) : Gv W c (.builtin "abs") [.int i] (.int (if i < 0 then -i else i)) := by
  rintro s Q E _ ⟨_, _, rfl, ⟨t, rfl⟩, rfl⟩ q
  exact call_abs_int fun u k => q _ k ⟨_, rfl⟩
theorem x_type {f : Str} {T : String} {x : Expr} {r : List Expr} {p p' : Pos} (hv : bootBuiltins f = some (.type T)) (e : nsIn (hd.heap_39 W.w.params) mainGlobals f = some none) (hn : f ≠ "__name__")
    (h : Ax W c vars led (x :: r) fun ps l1 => ∃ rv, Gv W c (.type T) ps rv ∧ Φ rv l1)
    (hf : c.env.kindOf f = some .globalImplicit := by first | rfl | exact kind_of (by assumption) rfl) (hdb : (f == ("__debug__" : Str)) = false := by decide) (he : starEach (x :: r) c.env = (false, eval x c.env) :: starEach r c.env := by rfl) (hp : (backTo p' (starEach r c.env)).any (·.1) = false := by rfl) :
    Wx W c vars led (.Call (.Name f p) (x :: r) [] p') Φ := by
  intro s Q E a q bad
  obtain ⟨m0, cells0, F0, _, _, _⟩ := a.ex
  refine Call_ (nameX_B F0 a.ok.inK (topRead_of a.ok.top) e hv hn (callWith_type1 (h s _ _ p' a (fun vs ps l1 s1 hps hvs a1 os1 => ?_) bad) he hp) a.ok.kind hf hdb)
  obtain ⟨rv, hg, hΦ⟩ := hps
  exact hg s1 Q E vs hvs fun v k hv => q v rv l1 { s1 with toks := k } hΦ hv (a1.toks k) os1
theorem x_builtin {f : Str} {id : String} {x : Expr} {r : List Expr} {p p' : Pos} (hv : bootBuiltins f = some (.builtin id)) (e : nsIn (hd.heap_39 W.w.params) mainGlobals f = some none) (hn : f ≠ "__name__")
    (h : Ax W c vars led (x :: r) fun ps l1 => ∃ rv, Gv W c (.builtin id) ps rv ∧ Φ rv l1)
    (hf : c.env.kindOf f = some .globalImplicit := by first | rfl | exact kind_of (by assumption) rfl) (hdb : (f == ("__debug__" : Str)) = false := by decide) (he : starEach (x :: r) c.env = (false, eval x c.env) :: starEach r c.env := by rfl) (hp : (backTo p' (starEach r c.env)).any (·.1) = false := by rfl) :
    Wx W c vars led (.Call (.Name f p) (x :: r) [] p') Φ := by
  intro s Q E a q bad
  obtain ⟨m0, cells0, F0, _, _, _⟩ := a.ex
  refine Call_ (nameX_B F0 a.ok.inK (topRead_of a.ok.top) e hv hn (callWith_builtin1 (h s _ _ p' a (fun vs ps l1 s1 hps hvs a1 os1 => ?_) bad) he hp) a.ok.kind hf hdb)
  obtain ⟨rv, hg, hΦ⟩ := hps
  exact hg s1 Q E vs hvs fun v k hv => q v rv l1 { s1 with toks := k } hΦ hv (a1.toks k) os1
theorem at_push {s : Shared} {o : Obj} (a : At W c vars led s) (ho : o.isFreed = false) : At W c vars ((s.heap.objs.size, o) :: led) { s with heap := s.heap.push o } := by
  obtain ⟨m, cells, F, l, ⟨q1, q2, t1, t2, off, N⟩, G⟩ := a.ex
  have kp : ∀ b x, s.heap.get? b = some x → (s.heap.push o).get? b = some x := fun b x e => Heap.get?_push_of_some _ e
  refine ⟨a.ok, fun p hp => List.mem_cons_of_mem _ (a.sub p hp), m, cells, F.keeps kp, l, newsT_perm (l := (s.heap.objs.size, o) :: (cells ++ led)) ⟨q1, q2, t1, t2, List.forall_mem_cons.mpr ⟨⟨Nat.ne_of_gt (Heap.lt_size (N _ List.mem_cons_self).1), Nat.ne_of_gt (Heap.lt_size (N _ (List.mem_cons_of_mem _ List.mem_cons_self)).1)⟩, off⟩, fun p hp => ?_⟩ fun p hp => ?_, G⟩
  · have hp' := ((List.perm_middle (l₁ := [(95, tabO q1), (124, tabO q2)]) (l₂ := cells ++ led) (a := (s.heap.objs.size, o))).mem_iff).mp hp
    rcases List.mem_cons.mp hp' with rfl | h
    · exact ⟨Heap.get?_push_size _ ho, Nat.ne_of_gt F.ns.lt, none_at_size F⟩
    · exact ⟨kp _ _ (N p h).1, (N p h).2⟩
  · exact (List.perm_middle.mem_iff).mp hp
theorem allIs_len : ∀ {ps : List PV} {vs : List Value}, AllIs ps vs → vs.length = ps.length
  | [], _, h => by cases h; rfl
  | _ :: _, _, ⟨_, _, h, _, hr⟩ => by rw [h, List.length_cons, List.length_cons, allIs_len hr]
/-- a tuple display -/
theorem x_tuple {elts : List Expr} {k : Nat} {p : Pos} (h : Ax W c vars led elts fun ps l1 => ps.length < 100 ∧ ∀ t vs, AllIs ps vs → Φ (.ref t) ((t, Tup vs.toArray) :: l1)) : Wx W c vars led (.Tuple elts k p) Φ := by
  intro s Q E a q bad
  refine Tuple_ (h s _ _ p a (fun vs ps l1 s1 hps hvs a1 os1 => ?_) bad)
  refine wpAny_newTuple (q _ _ _ _ (hps.2 s1.heap.objs.size vs hvs) rfl (at_push a1 rfl) os1) ?_
  have e := allIs_len hvs
  have := sizeLine_big
  have := hps.1
  omega
/-- a list display -/
theorem x_list {elts : List Expr} {p : Pos} (h : Ax W c vars led elts fun ps l1 => ps.length < 100 ∧ ∀ t vs, AllIs ps vs → Φ (.ref t) ((t, listOf vs.toArray 0) :: l1)) : Wx W c vars led (.List elts p) Φ := by
  intro s Q E a q bad
  refine List_ (h s _ _ p a (fun vs ps l1 s1 hps hvs a1 os1 => ?_) bad)
  refine wpAny_newList (q _ _ _ _ (hps.2 s1.heap.objs.size vs hvs) rfl (at_push a1 rfl) os1) ?_
  have e := allIs_len hvs
  have := sizeLine_big
  have := hps.1
  omega
theorem allIs_strs : ∀ {ys : List Str} {vs : List Value}, AllIs (ys.map .str) vs → StrsAre vs ys
  | [], _, h => by cases h; exact .nil
  | _ :: _, _, ⟨_, _, h, ⟨t, ht⟩, hr⟩ => by subst h ht; exact .cons _ _ (allIs_strs hr)
/-- a list of literal texts -/
inductive Ls : List Expr → List Str → Prop
  | nil : Ls [] []
  | cons {x k p es ys} : Ls es ys → Ls (.Constant (.str x) k p :: es) (x :: ys)
theorem a_strs {es : List Expr} {ys : List Str} (h : Ls es ys) : ∀ {Ψ : List PV → Led → Prop}, Ψ (ys.map .str) led → Ax W c vars led es Ψ := by
  induction h with
  | nil => exact a_nil
  | cons _ ih => exact fun q => a_pure Pe.str (ih q)
/-- an item of a list of texts in the ledger -/
theorem x_item {b ix : Expr} {p : Pos} (h : Wx W c vars led b fun pb l1 => Wx W c vars l1 ix fun pi l2 => ∃ t vs ys i, pb = .ref t ∧ (t, listOf vs.toArray 0) ∈ l2 ∧ StrsAre vs ys ∧ ys.length < 100 ∧ pi = .int i ∧ 0 ≤ i ∧ i < ys.length ∧ Φ (.str (ys.getD i.toNat Str.empty)) l2)
    (hs : ∀ t k u, subscripted ix false (.ref t) (.int k u) = operate [.ref t, .int k u] (getItem (.ref t) (.int k u)) := by intro _ _ _; with_unfolding_all rfl) : Wx W c vars led (.Subscript b ix p) Φ := by
  intro s Q E a q bad
  refine Subscript_ (h s _ _ a (fun v pv l1 s1 hw hv a1 os1 => ?_) bad)
  refine hw s1 _ _ a1 (fun v2 pv2 l2 s2 h2 hv2 a2 os2 => ?_) (fun X e s3 r1 r2 r3 => bad X e s3 r1 r2 (r3.trans os1))
  obtain ⟨t, vs, ys, i, rfl, hm, hi, hl, rfl, h0, h1, hΦ⟩ := h2
  obtain rfl : v = .ref t := hv
  obtain ⟨t2, rfl⟩ := hv2
  obtain ⟨m, cells, F, l, ⟨q1, q2, _, _, _, N⟩, G⟩ := a2.ex
  have hL : s2.heap.IsList t vs.toArray := ⟨_, (N _ (List.mem_cons_of_mem _ (List.mem_cons_of_mem _ (List.mem_append_right _ hm)))).1, rfl, _, rfl⟩
  have hgt : vs[i.toNat]? = some (vs[i.toNat]'(by rw [StrsAre.len_eq hi]; omega)) := List.getElem?_eq_getElem _
  have hst : ∀ {vs : List Value} {ys : List Str}, StrsAre vs ys → ∀ j (hj : j < vs.length), ∃ u, vs[j] = .str (ys.getD j Str.empty) u := by
    intro vs ys hh
    induction hh with
    | nil => intro j hj; simp at hj
    | cons n u h ih =>
      intro j hj
      cases j with
      | zero => exact ⟨u, rfl⟩
      | succ j => obtain ⟨u', e⟩ := ih j (by simpa using hj); exact ⟨u', by simpa using e⟩
  obtain ⟨u, hu⟩ := hst hi i.toNat (by rw [StrsAre.len_eq hi]; omega)
  exact tail_any hL.typeIs slot_list_getitem.lookup (wpAny_getItem_list hL h0 (by omega) (by simpa using hgt) (q _ _ _ s2 hΦ ⟨u, hu⟩ a2 (os2.trans os1))) (hs _ _ _)
/-- a call without arguments -/
theorem x_fn0 {f : Str} {fa : Addr} {k : Nat} {post : PV → Led → Prop} {relE' : String → Prop} {p p' : Pos} (C : Fn W fa k [] [] post relE') (e : nsIn (hd.heap_39 W.w.params) mainGlobals f = some (some (.ref fa)))
    (hr : c.Room k) (hE : ∀ X, relE' X → c.relE X) (h : ∀ pv own, post pv own → Φ pv (own ++ led))
    (hf : c.env.kindOf f = some .globalImplicit := by first | rfl | exact kind_of (by assumption) rfl) (hdb : (f == ("__debug__" : Str)) = false := by decide) (hfn : ∃ o fd, (hd.heap_39 W.w.params).lookup fa = some o ∧ o.data = .func fd := by exact ⟨_, _, rfl, rfl⟩) : Wx W c vars led (.Call (.Name f p) [] [] p') Φ := by
  intro s Q E a q bad
  obtain ⟨m, cells, F, l, NT, G⟩ := a.ex
  obtain ⟨o, fd, ho, hod⟩ := hfn
  refine Call_ (nameX_K F a.ok.inK (topRead_of a.ok.top) e (Calls.callWith_function (first := []) (o := o) (fd := fd) (PyProof.Rows.evalArgs_none ⟨⟨(Frag.In.keeps a.ok.inK F.keep) _ _ ho, hod⟩, ?_⟩)) a.ok.kind hf hdb)
  refine C c s [] m (cells ++ led) Q E a.ok hr rfl F NT G (fun p hp => nomatch hp) (fun v pv own s2 hp hv F2 NT2 G2 os2 => ?_) fun X e s2 hX hG os2 => ?_
  · refine q v pv (own ++ led) s2 (h pv own hp) hv ⟨a.ok, fun p hm => List.mem_append_right _ (a.sub p hm), m, cells, F2, l, newsT_perm NT2 fun p hm => ?_, G2⟩ os2
    exact (by simp only [List.mem_append] at hm ⊢; rcases hm with h | h | h <;> simp [h])
  · exact bad X e s2 (hE X hX) ⟨cells ++ led, fun p hm => List.mem_append_right _ (a.sub p hm), .inl hG⟩ os2
/-- an item of one of the two rows of names -/
theorem x_haab {b ix : Expr} {p : Pos} (h : Wx W c vars led b fun pb l1 => pb = .ref 29 ∧ Wx W c vars l1 ix fun pi l2 => ∃ i, pi = .int i ∧ 0 ≤ i ∧ i < 19 ∧ Φ (.str (HN i)) l2)
    (hs : ∀ k u, subscripted ix false (.ref 29) (.int k u) = operate [.ref 29, .int k u] (getItem (.ref 29) (.int k u)) := by intro _ _; with_unfolding_all rfl) (hg : ∀ r, letTemporaryGo b (.ref 29) r = pure () := by intro _; with_unfolding_all rfl) : Wx W c vars led (.Subscript b ix p) Φ := by
  intro s Q E a q bad
  refine Subscript_ (h s _ _ a (fun v pv l1 s1 hw hv a1 os1 => ?_) bad)
  obtain ⟨rfl, hw⟩ := hw
  obtain rfl : v = .ref 29 := hv
  refine hw s1 _ _ a1 (fun v2 pv2 l2 s2 h2 hv2 a2 os2 => ?_) (fun X e s3 r1 r2 r3 => bad X e s3 r1 r2 (r3.trans os1))
  obtain ⟨i, rfl, h0, h1, hΦ⟩ := h2
  obtain ⟨t, rfl⟩ := hv2
  obtain ⟨m, cells, F, l, NT, G⟩ := a2.ex
  obtain ⟨vs, hl, hi⟩ := list29 (Frag.In.keeps a2.ok.inK F.keep)
  exact item_list_strs_any rfl hl hi (by decide +kernel) (fun ho => absurd ho (by simp only [haabs, List.length]; omega)) (fun _ _ t' => q _ _ _ s2 hΦ ⟨t', by rw [HN_eq]⟩ a2 (os2.trans os1)) (fun hn => absurd hn (by omega)) (hs _ _) hg
theorem x_tzol {b ix : Expr} {p : Pos} (h : Wx W c vars led b fun pb l1 => pb = .ref 30 ∧ Wx W c vars l1 ix fun pi l2 => ∃ i, pi = .int i ∧ -1 ≤ i ∧ i < 20 ∧ Φ (.str (TN (i % 20))) l2)
    (hs : ∀ k u, subscripted ix false (.ref 30) (.int k u) = operate [.ref 30, .int k u] (getItem (.ref 30) (.int k u)) := by intro _ _; with_unfolding_all rfl) (hg : ∀ r, letTemporaryGo b (.ref 30) r = pure () := by intro _; with_unfolding_all rfl) : Wx W c vars led (.Subscript b ix p) Φ := by
  intro s Q E a q bad
  refine Subscript_ (h s _ _ a (fun v pv l1 s1 hw hv a1 os1 => ?_) bad)
  obtain ⟨rfl, hw⟩ := hw
  obtain rfl : v = .ref 30 := hv
  refine hw s1 _ _ a1 (fun v2 pv2 l2 s2 h2 hv2 a2 os2 => ?_) (fun X e s3 r1 r2 r3 => bad X e s3 r1 r2 (r3.trans os1))
  obtain ⟨i, rfl, h0, h1, hΦ⟩ := h2
  obtain ⟨t, rfl⟩ := hv2
  obtain ⟨m, cells, F, l, NT, G⟩ := a2.ex
  obtain ⟨vs, hl, hi⟩ := list30 (Frag.In.keeps a2.ok.inK F.keep)
  refine item_list_strs_any rfl hl hi (by decide +kernel) (fun ho => absurd ho (by simp only [tzols, List.length]; omega)) (fun hp _ t' => q _ _ _ s2 hΦ ⟨t', by rw [TN_eq, show i % 20 = i by omega]⟩ a2 (os2.trans os1)) (fun hn _ t' => q _ _ _ s2 hΦ ⟨t', by rw [TN_eq, show i = -1 by omega]; rfl⟩ a2 (os2.trans os1)) (hs _ _) hg
end
end Mine
set_option maxRecDepth 100000
namespace Mine
theorem ends_of {c : Cx} {P : PV → Led → Prop} {pv : PV} {own led : Led} (hp : c.post = P) (h : P pv own) (hs : ∀ p ∈ own ++ c.led₀, p ∈ led) : Ends c pv led := ⟨own, hp ▸ h, hs⟩
def IntP (x : Int) (pv : PV) (own : Led) : Prop := pv = .int x ∧ own = []
theorem Cx.Room.mono {c : Cx} {k k' : Nat} (r : c.Room k) (h : k' ≤ k) : c.Room k' := ⟨by have := r.1; omega, by have := r.2; omega⟩
theorem f_to_jd {W : Wd} (a b d e g : Int)  : Fn W 37 1 [.int a, .int b, .int d, .int e, .int g] [] (IntP (584283 + a * 144000 + b * 7200 + d * 360 + e * 20 + g)) (fun _ => False) := by
  refine fn_enter (names := ["baktun", "katun", "tun", "uinal", "kin"]) rfl rfl (by rintro s _ ⟨v1, _, rfl, h1, v2, _, rfl, h2, v3, _, rfl, h3, v4, _, rfl, h4, v5, _, rfl, h5, rfl⟩; exact BindsTo.of_eq rfl) ?_
  intro c hcs hpost hrelE room hreq
  refine' b_glob (x := "EPOCH") (pv := .int 584283) ?za1 ?zb1 ?zc1; (case za1 => k_is); (case zc1 => exact ⟨_, rfl⟩); case' zb1 => skip
  refine b_return (x_pure ?_ (ends_of hpost ⟨rfl, rfl⟩ fun _ hp => hp))
  (repeat (first | exact Pe.int | exact Pe.str | exact Pe.none | exact Pe.bool | exact Pe.name rfl rfl | exact Ar.add _ _ | exact Ar.sub _ _ | exact Ar.mul _ _ (IntMulOk.of_right (by decide)) | exact Ar.mul _ _ (IntMulOk.of_left (by decide)) | exact Ar.mod _ _ (by decide) | exact Ar.div _ _ (by decide) | exact Ar.pow _ _ (by decide) | apply Pe.bin | apply Pe.neg))
theorem f_midnight {W : Wd} (jd : Int) (h1 : 0 < jd) : Fn W 21 1 [.int jd] [] (IntP jd) (fun _ => False) := by
  refine fn_enter (names := ["jd"]) rfl rfl (by rintro s _ ⟨v1, _, rfl, h1, rfl⟩; exact BindsTo.of_eq rfl) ?_
  intro c hcs hpost hrelE room hreq
  refine b_return (x_ifexp (t_cmp (x_pure (Pe.name rfl rfl) (x_pure Pe.int ⟨_, cp_gt _ _, fun _ => x_pure (Pe.name rfl rfl) (ends_of hpost ⟨rfl, rfl⟩ fun _ hp => hp), fun hf => absurd h1 (of_decide_eq_false hf)⟩))))
theorem f_amod {W : Wd} (a : Int) (b : Int) (h1 : 0 < b) : Fn W 28 1 [.int a, .int b] [] (IntP (if a % b = 0 then b else a % b)) (fun _ => False) := by
  refine fn_enter (names := ["a", "b"]) rfl rfl (by rintro s _ ⟨v1, _, rfl, h1, v2, _, rfl, h2, rfl⟩; exact BindsTo.of_eq rfl) ?_
  intro c hcs hpost hrelE room hreq
  refine b_assign (kind_of hcs rfl) (x_type PyProof.Rows.Boot.«int» (by k_is) (by decide) (a_pure (Pe.bin (Pe.name rfl rfl) (Pe.name rfl rfl) (Ar.mod _ _ h1)) (a_nil ⟨_, g_int _, ?_⟩)))
  refine b_return (x_ifexp (t_cmp (x_pure (Pe.name rfl rfl) (x_pure Pe.int ⟨_, cp_eq _ _, fun ht => x_pure (Pe.name rfl rfl) (ends_of hpost ⟨?_, rfl⟩ fun _ hp => hp), fun hf => x_pure (Pe.name rfl rfl) (ends_of hpost ⟨?_, rfl⟩ fun _ hp => hp)⟩))))
  · rw [if_pos (eq_of_beq ht)]
  · rw [if_neg (by simpa using hf)]
end Mine
set_option maxRecDepth 100000
namespace Mine
def PairP (x : Int) (y : Str) (pv : PV) (own : Led) : Prop := ∃ t tk tk', pv = .ref t ∧ own = [(t, Tup #[.int x tk, .str y tk'])]
theorem pair_end {c : Cx} {x x' : Int} {y y' : Str} {led : Led} (hp : c.post = PairP x y) (h1 : x' = x) (h2 : y' = y) (hs : ∀ p ∈ c.led₀, p ∈ led) : ∀ t vs, AllIs [.int x', .str y'] vs → Ends c (.ref t) ((t, Tup vs.toArray) :: led) := by
  subst h1 h2
  rintro t _ ⟨_, _, rfl, ⟨tk, rfl⟩, _, _, rfl, ⟨tk', rfl⟩, rfl⟩
  exact ⟨_, (by rw [hp]; exact ⟨t, tk, tk', rfl, rfl⟩), List.forall_mem_cons.mpr ⟨List.mem_cons_self, fun p hm => List.mem_cons_of_mem _ (hs p hm)⟩⟩
theorem haC_b (x : Int) : 0 ≤ HaC x ∧ HaC x < 365 := by unfold HaC; omega
theorem tzC_b (x : Int) : 0 ≤ TzC x ∧ TzC x < 260 := by unfold TzC; omega
theorem tzA (x : Int) : (if (x + 4) % 13 = 0 then 13 else (x + 4) % 13) = (x + 159) % 260 % 13 + 1 := by
  split <;> omega
theorem tzB (x : Int) : ((if (x + 20) % 20 = 0 then 20 else (x + 20) % 20) - 1) % 20 = (x + 159) % 260 % 20 := by
  split <;> omega
theorem f_to_haab {W : Wd} (jd : Int) (h1 : 0 < jd) : Fn W 51 2 [.int jd] [] (PairP (HaC jd % 20) (HN (HaC jd / 20))) (fun _ => False) := by
  refine fn_enter (names := ["jd"]) rfl rfl (by rintro s _ ⟨v1, _, rfl, h1, rfl⟩; exact BindsTo.of_eq rfl) ?_
  intro c hcs hpost hrelE room hreq
  refine' b_glob (x := "EPOCH") (pv := .int 584283) ?za1 ?zb1 ?zc1; (case za1 => k_is); (case zc1 => exact ⟨_, rfl⟩); case' zb1 => skip
  refine' b_glob (x := "HAAB") (pv := .ref 29) ?za2 ?zb2 ?zc2; (case za2 => k_is); (case zc2 => exact rfl); case' zb2 => skip
  refine b_assign (kind_of hcs rfl) (x_bin (x_fn (f_midnight jd h1) (by k_is) room (fun _ h => h.elim) (a_pure (Pe.name rfl rfl) (a_nil ⟨rfl, (fun _ h => nomatch h), ?_⟩))))
  rintro _ _ ⟨rfl, rfl⟩
  refine x_pure (Pe.name rfl rfl) ⟨_, _, _, rfl, rfl, Ar.sub _ _, ?_⟩
  refine b_assign (kind_of hcs rfl) (x_pure (pv := .int (HaC jd)) ?_ ?_); · (repeat (first | exact Pe.int | exact Pe.str | exact Pe.none | exact Pe.bool | exact Pe.name rfl rfl | exact Ar.add _ _ | exact Ar.sub _ _ | exact Ar.mul _ _ (IntMulOk.of_right (by decide)) | exact Ar.mul _ _ (IntMulOk.of_left (by decide)) | exact Ar.mod _ _ (by decide) | exact Ar.div _ _ (by decide) | exact Ar.pow _ _ (by decide) | apply Pe.bin | apply Pe.neg))
  refine b_assign (kind_of hcs rfl) (x_pure (pv := .int (HaC jd % 20)) ?_ ?_); · (repeat (first | exact Pe.int | exact Pe.str | exact Pe.none | exact Pe.bool | exact Pe.name rfl rfl | exact Ar.add _ _ | exact Ar.sub _ _ | exact Ar.mul _ _ (IntMulOk.of_right (by decide)) | exact Ar.mul _ _ (IntMulOk.of_left (by decide)) | exact Ar.mod _ _ (by decide) | exact Ar.div _ _ (by decide) | exact Ar.pow _ _ (by decide) | apply Pe.bin | apply Pe.neg))
  refine b_assign (kind_of hcs rfl) (x_pure (pv := .int (HaC jd / 20)) ?_ ?_); · (repeat (first | exact Pe.int | exact Pe.str | exact Pe.none | exact Pe.bool | exact Pe.name rfl rfl | exact Ar.add _ _ | exact Ar.sub _ _ | exact Ar.mul _ _ (IntMulOk.of_right (by decide)) | exact Ar.mul _ _ (IntMulOk.of_left (by decide)) | exact Ar.mod _ _ (by decide) | exact Ar.div _ _ (by decide) | exact Ar.pow _ _ (by decide) | apply Pe.bin | apply Pe.neg))
  refine b_return (x_tuple (a_cons (x_type PyProof.Rows.Boot.«int» (by k_is) (by decide) (a_pure (Pe.name rfl rfl) (a_nil ⟨_, g_int _, ?_⟩)))))
  exact a_cons (x_haab (x_pure (Pe.name rfl rfl) ⟨rfl, x_pure (Pe.name rfl rfl) ⟨_, rfl, by have := haC_b jd; omega, by have := haC_b jd; omega, a_nil ⟨show 2 < 100 by decide, pair_end hpost rfl rfl fun _ h => h⟩⟩⟩))
theorem f_to_tzolkin {W : Wd} (jd : Int) (h1 : 0 < jd) : Fn W 58 2 [.int jd] [] (PairP (TzC jd % 13 + 1) (TN (TzC jd % 20))) (fun _ => False) := by
  refine fn_enter (names := ["jd"]) rfl rfl (by rintro s _ ⟨v1, _, rfl, h1, rfl⟩; exact BindsTo.of_eq rfl) ?_
  intro c hcs hpost hrelE room hreq
  refine' b_glob (x := "EPOCH") (pv := .int 584283) ?za3 ?zb3 ?zc3; (case za3 => k_is); (case zc3 => exact ⟨_, rfl⟩); case' zb3 => skip
  refine' b_glob (x := "TZOLKIN") (pv := .ref 30) ?za4 ?zb4 ?zc4; (case za4 => k_is); (case zc4 => exact rfl); case' zb4 => skip
  refine b_assign (kind_of hcs rfl) (x_bin (x_fn (f_midnight jd h1) (by k_is) room (fun _ h => h.elim) (a_pure (Pe.name rfl rfl) (a_nil ⟨rfl, (fun _ h => nomatch h), ?_⟩))))
  rintro _ _ ⟨rfl, rfl⟩
  refine x_pure (Pe.name rfl rfl) ⟨_, _, _, rfl, rfl, Ar.sub _ _, ?_⟩
  refine b_assign (kind_of hcs rfl) (x_fn (f_amod (jd - 584283 + 4) 13 (by decide)) (by k_is) room (fun _ h => h.elim) (a_pure (Pe.bin (Pe.name rfl rfl) Pe.int (Ar.add _ _)) (a_pure Pe.int (a_nil ⟨rfl, (fun _ h => nomatch h), ?_⟩))))
  rintro _ _ ⟨rfl, rfl⟩
  refine b_assign (kind_of hcs rfl) (x_fn (f_amod (jd - 584283 + 20) 20 (by decide)) (by k_is) room (fun _ h => h.elim) (a_pure (Pe.bin (Pe.name rfl rfl) Pe.int (Ar.add _ _)) (a_pure Pe.int (a_nil ⟨rfl, (fun _ h => nomatch h), ?_⟩))))
  rintro _ _ ⟨rfl, rfl⟩
  have e2 := tzB (jd - 584283)
  refine b_return (x_tuple (a_cons (x_type PyProof.Rows.Boot.«int» (by k_is) (by decide) (a_pure (Pe.name rfl rfl) (a_nil ⟨_, g_int _, ?_⟩)))))
  refine a_cons (x_tzol (x_pure (Pe.name rfl rfl) ⟨rfl, x_bin (x_type PyProof.Rows.Boot.«int» (by k_is) (by decide) (a_pure (Pe.name rfl rfl) (a_nil ⟨_, g_int _, x_pure Pe.int ⟨_, _, _, rfl, rfl, Ar.sub _ _, _, rfl, ?_, ?_, a_nil ⟨show 2 < 100 by decide, pair_end hpost (tzA _) (by rw [e2]) fun _ h => h⟩⟩⟩)))⟩))
  · split <;> omega
  · split <;> omega
abbrev J (a b d e g : Int) : Int := 584283 + a * 144000 + b * 7200 + d * 360 + e * 20 + g
theorem f_lc_to_haab {W : Wd} (a b d e g : Int) (h1 : 0 < J a b d e g) : Fn W 65 3 [.int a, .int b, .int d, .int e, .int g] [] (PairP (HaC (J a b d e g) % 20) (HN (HaC (J a b d e g) / 20))) (fun _ => False) := by
  refine fn_enter (names := ["baktun", "katun", "tun", "uinal", "kin"]) rfl rfl (by rintro s _ ⟨v1, _, rfl, h1, v2, _, rfl, h2, v3, _, rfl, h3, v4, _, rfl, h4, v5, _, rfl, h5, rfl⟩; exact BindsTo.of_eq rfl) ?_
  intro c hcs hpost hrelE room hreq
  refine b_assign (kind_of hcs rfl) (x_fn (f_to_jd a b d e g) (by k_is) (room.mono (by decide)) (fun _ h => h.elim) (a_pure (Pe.name rfl rfl) (a_pure (Pe.name rfl rfl) (a_pure (Pe.name rfl rfl) (a_pure (Pe.name rfl rfl) (a_pure (Pe.name rfl rfl) (a_nil ⟨rfl, (fun _ h => nomatch h), ?_⟩)))))))
  rintro _ _ ⟨rfl, rfl⟩
  refine b_return (x_fn (f_to_haab _ h1) (by k_is) room (fun _ h => h.elim) (a_pure (Pe.name rfl rfl) (a_nil ⟨rfl, (fun _ h => nomatch h), ?_⟩)))
  exact fun pv own hp => ends_of hpost hp fun _ h => h
theorem f_lc_to_tzolkin {W : Wd} (a b d e g : Int) (h1 : 0 < J a b d e g) : Fn W 72 3 [.int a, .int b, .int d, .int e, .int g] [] (PairP (TzC (J a b d e g) % 13 + 1) (TN (TzC (J a b d e g) % 20))) (fun _ => False) := by
  refine fn_enter (names := ["baktun", "katun", "tun", "uinal", "kin"]) rfl rfl (by rintro s _ ⟨v1, _, rfl, h1, v2, _, rfl, h2, v3, _, rfl, h3, v4, _, rfl, h4, v5, _, rfl, h5, rfl⟩; exact BindsTo.of_eq rfl) ?_
  intro c hcs hpost hrelE room hreq
  refine b_assign (kind_of hcs rfl) (x_fn (f_to_jd a b d e g) (by k_is) (room.mono (by decide)) (fun _ h => h.elim) (a_pure (Pe.name rfl rfl) (a_pure (Pe.name rfl rfl) (a_pure (Pe.name rfl rfl) (a_pure (Pe.name rfl rfl) (a_pure (Pe.name rfl rfl) (a_nil ⟨rfl, (fun _ h => nomatch h), ?_⟩)))))))
  rintro _ _ ⟨rfl, rfl⟩
  refine b_return (x_fn (f_to_tzolkin _ h1) (by k_is) room (fun _ h => h.elim) (a_pure (Pe.name rfl rfl) (a_nil ⟨rfl, (fun _ h => nomatch h), ?_⟩)))
  exact fun pv own hp => ends_of hpost hp fun _ h => h
end Mine
set_option maxRecDepth 100000
namespace Mine
def ListP (ys : List Str) (pv : PV) (own : Led) : Prop := ∃ t vs, pv = .ref t ∧ StrsAre vs ys ∧ own = [(t, listOf vs.toArray 0)]
theorem len_haabs : (haabs.map PV.str).length < 100 := by rw [List.length_map]; decide
theorem len_tzols : (tzols.map PV.str).length < 100 := by rw [List.length_map]; decide
theorem list_end {c : Cx} {ys : List Str} {led : Led} (hp : c.post = ListP ys) (hs : ∀ p ∈ c.led₀, p ∈ led) : ∀ t vs, AllIs (ys.map .str) vs → Ends c (.ref t) ((t, listOf vs.toArray 0) :: led) :=
  fun t vs h => ends_of hp ⟨t, vs, rfl, allIs_strs h, rfl⟩ (List.forall_mem_cons.mpr ⟨List.mem_cons_self, fun p hm => List.mem_cons_of_mem _ (hs p hm)⟩)
theorem f_law_months {W : Wd} : Fn W 143 1 [] [] (ListP haabs) (fun _ => False) := by
  refine fn_enter (names := []) rfl rfl (by rintro s _ rfl; exact BindsTo.of_eq rfl) ?_
  intro c hcs hpost hrelE room hreq
  refine b_return ?_
  refine x_list ?_
  refine a_strs (ys := haabs) ?_ ?_
  · repeat (first | exact Ls.nil | refine Ls.cons ?_)
  · exact ⟨len_haabs, list_end (ys := haabs) hpost fun _ h => h⟩
theorem f_law_names {W : Wd} : Fn W 150 1 [] [] (ListP tzols) (fun _ => False) := by
  refine fn_enter (names := []) rfl rfl (by rintro s _ rfl; exact BindsTo.of_eq rfl) ?_
  intro c hcs hpost hrelE room hreq
  refine b_return ?_
  refine x_list ?_
  refine a_strs (ys := tzols) ?_ ?_
  · repeat (first | exact Ls.nil | refine Ls.cons ?_)
  · exact ⟨len_tzols, list_end (ys := tzols) hpost fun _ h => h⟩
theorem f_law_haab {W : Wd} (p : Int) (h1 : 0 ≤ p ∧ p < 365) : Fn W 164 2 [.int p] [] (PairP (p % 20) (HN (p / 20))) (fun _ => False) := by
  refine fn_enter (names := ["place"]) rfl rfl (by rintro s _ ⟨v1, _, rfl, h1, rfl⟩; exact BindsTo.of_eq rfl) ?_
  intro c hcs hpost hrelE room hreq
  refine b_return (x_tuple (a_pure (Pe.bin (Pe.name rfl rfl) Pe.int (Ar.mod _ _ (by decide))) (a_cons (x_item (x_fn0 f_law_months (by k_is) room (fun _ h => h.elim) ?_)))))
  rintro _ _ ⟨t, vs, rfl, hv, rfl⟩
  exact x_pure (Pe.bin (Pe.name rfl rfl) Pe.int (Ar.div _ _ (by decide))) ⟨t, vs, haabs, _, rfl, List.mem_cons_self, hv, by decide, rfl, by omega, by show p / 20 < 19; omega, a_nil ⟨show 2 < 100 by decide, pair_end hpost rfl (HN_eq _).symm fun _ h => List.mem_cons_of_mem _ h⟩⟩
theorem f_law_tzolkin {W : Wd} (p : Int) (h1 : 0 ≤ p) : Fn W 171 2 [.int p] [] (PairP (p % 13 + 1) (TN (p % 20))) (fun _ => False) := by
  refine fn_enter (names := ["count"]) rfl rfl (by rintro s _ ⟨v1, _, rfl, h1, rfl⟩; exact BindsTo.of_eq rfl) ?_
  intro c hcs hpost hrelE room hreq
  refine b_return (x_tuple (a_pure (Pe.bin (Pe.bin (Pe.name rfl rfl) Pe.int (Ar.mod _ _ (by decide))) Pe.int (Ar.add _ _)) (a_cons (x_item (x_fn0 f_law_names (by k_is) room (fun _ h => h.elim) ?_)))))
  rintro _ _ ⟨t, vs, rfl, hv, rfl⟩
  exact x_pure (Pe.bin (Pe.name rfl rfl) Pe.int (Ar.mod _ _ (by decide))) ⟨t, vs, tzols, _, rfl, List.mem_cons_self, hv, by decide, rfl, by omega, by show p % 20 < 20; omega, a_nil ⟨show 2 < 100 by decide, pair_end hpost rfl (TN_eq _).symm fun _ h => List.mem_cons_of_mem _ h⟩⟩
theorem f_law_ahead {W : Wd} (a b : Int)  : Fn W 178 1 [.int a, .int b] [] (IntP ((b - a) % 260)) (fun _ => False) := by
  refine fn_enter (names := ["count", "goal"]) rfl rfl (by rintro s _ ⟨v1, _, rfl, h1, v2, _, rfl, h2, rfl⟩; exact BindsTo.of_eq rfl) ?_
  intro c hcs hpost hrelE room hreq
  exact b_return (x_pure (Pe.bin (Pe.bin (Pe.name rfl rfl) (Pe.name rfl rfl) (Ar.sub _ _)) Pe.int (Ar.mod _ _ (by decide))) (ends_of hpost ⟨rfl, rfl⟩ fun _ hp => hp))
theorem f_from_count {W : Wd} (n : Int)  : Fn W 93 2 [.int n] [] (PairP ((n - 1) % 13 + 1) (TN ((n - 1) % 20))) (fun _ => False) := by
  refine fn_enter (names := ["count"]) rfl rfl (by rintro s _ ⟨v1, _, rfl, h1, rfl⟩; exact BindsTo.of_eq rfl) ?_
  intro c hcs hpost hrelE room hreq
  refine' b_glob (x := "TZOLKIN") (pv := .ref 30) ?za1 ?zb1 ?zc1; (case za1 => k_is); (case zc1 => exact rfl); case' zb1 => skip
  refine b_assign (kind_of hcs rfl) (x_fn (f_amod n 13 (by decide)) (by k_is) room (fun _ h => h.elim) (a_pure (Pe.name rfl rfl) (a_pure Pe.int (a_nil ⟨rfl, (fun _ h => nomatch h), ?_⟩))))
  rintro _ _ ⟨rfl, rfl⟩
  refine b_assign (kind_of hcs rfl) (x_tzol (x_pure (Pe.name rfl rfl) ⟨rfl, x_pure (Pe.bin (Pe.bin (Pe.name rfl rfl) Pe.int (Ar.mod _ _ (by decide))) Pe.int (Ar.sub _ _)) ⟨_, rfl, by omega, by omega, ?_⟩⟩))
  refine b_return (x_tuple (a_pure (Pe.name rfl rfl) (a_pure (Pe.name rfl rfl) (a_nil ⟨show 2 < 100 by decide, pair_end hpost ?_ ?_ fun _ h => h⟩))))
  · split <;> omega
  · congr 1; omega
end Mine
set_option maxRecDepth 100000
namespace Mine
theorem fn_of_ctrx {W : Wd} {f : Addr} {k : Nat} {pvs : List PV} {post : PV → Led → Prop} {relE : String → Prop} {Rel : Value → Led → Prop} (h : ∀ vs, AllIs pvs vs → CtrX W.w W.mean W.mg W.mb k f vs NoPre Rel relE) (hp : ∀ v own, Rel v own → own = [] ∧ ∃ pv, pv.Is v ∧ post pv own) :
    Fn W f k pvs [] post relE := by
  intro c s vs m led Q E ok room hvs F ⟨q1, q2, t1, t2, off, N⟩ G _ hret hrex
  refine h vs hvs c.dp c.un c.gd c.cn c.cs c.a c.ccd c.cl c.outer c.A₀ c.base c.h₀ c.L m q1 q2 led c.pre s Q E ok.below F ok.inK N ok.top ok.kind G room.1 room.2 t1 t2 off ok.bok trivial ?_ ?_
  · intro v own h' g' d' tk' p1 p2 hr u1 u2 F' N' G'
    obtain ⟨rfl, pv, hi, hp'⟩ := hp v own hr
    exact hret v pv [] _ hp' hi F' ⟨p1, p2, u1, u2, off, N'⟩ G' rfl
  · intro X e G0 h' g' d' tk' p1 p2 hX u1 u2 R F0 U G'
    exact hrex X e _ hX ⟨G0, m, p1, p2, u1, u2, F0, U, R, G'⟩ rfl
/-- what _tzolkin_count gives -/
def TcP (x : Int) (k : Str) (pv : PV) (own : Led) : Prop := own = [] ∧ 1 ≤ x ∧ x ≤ 13 ∧ ∃ i j, 0 ≤ i ∧ i < 20 ∧ k = TN i ∧ 1 ≤ j ∧ j ≤ 260 ∧ j % 13 = x % 13 ∧ j % 20 = (i + 1) % 20 ∧ pv = .int j
def TcE (x : Int) (k : Str) (X : String) : Prop := (X = "IndexError" ∧ (x < 1 ∨ 13 < x)) ∨ (X = "ValueError" ∧ 1 ≤ x ∧ x ≤ 13 ∧ k ∉ tzols)
theorem f_tz_count {W : Wd} (x : Int) (k : Str) (hk : k ∈ names) : Fn W 100 6 [.int x, .str k] [] (TcP x k) (TcE x k) := by
  refine fn_of_ctrx (Rel := fun v own => 1 ≤ x ∧ x ≤ 13 ∧ ∃ i j, 0 ≤ i ∧ i < 20 ∧ k = TN i ∧ 1 ≤ j ∧ j ≤ 260 ∧ j % 13 = x % 13 ∧ j % 20 = (i + 1) % 20 ∧ IntR j v own) (fun vs hvs => ?_) (fun v own hr => ?_)
  · obtain ⟨_, _, rfl, ⟨t1, rfl⟩, _, _, rfl, ⟨t2, rfl⟩, rfl⟩ := hvs
    exact c_tzolkin_count W.w W.mean W.mg W.mb x k t1 t2 hk
  · obtain ⟨a1, a2, i, j, b1, b2, b3, b4, b5, b6, b7, b8⟩ := hr
    obtain ⟨tk, rfl, rfl⟩ := b8.out
    exact ⟨rfl, .int j, ⟨tk, rfl⟩, rfl, a1, a2, i, j, b1, b2, b3, b4, b5, b6, b7, rfl⟩
end Mine
set_option maxRecDepth 100000
namespace Mine
section
variable {W : Wd} {c : Cx} {vars : Vars} {led : Led} {Φ : PV → Led → Prop}
theorem t_or {x y : Expr} {p : Pos} {Ψ : Bool → Led → Prop} (h : Tx W c vars led x fun b l => (b = true → Ψ true l) ∧ (b = false → Tx W c vars l y Ψ)) : Tx W c vars led (.BoolOp .Or [x, y] p) Ψ := by
  intro s Q E a q bad
  refine isTrue_or (h s _ _ a (fun b l s1 hb a1 os1 => ?_) bad)
  cases b with
  | true => exact q true l s1 (hb.1 rfl) a1 os1
  | false =>
    refine isTrue_or (hb.2 rfl s1 _ _ a1 (fun b2 l2 s2 hb2 a2 os2 => ?_) (by rw [os1]; exact bad))
    cases b2 with
    | true => exact q true l2 s2 hb2 a2 (os2.trans os1)
    | false => exact isTrue_or_nil (q false l2 s2 hb2 a2 (os2.trans os1))
theorem b_raise {x : Str} {X nid iid : String} {a0 : Expr} {np cp p : Pos} {rest : List Stmt} {N : Vars → Led → Prop} (FC : ExcCallFacts X nid iid) (FR : ExcRaiseFacts X) (hv : bootBuiltins x = some (.type X)) (e : nsIn (hd.heap_39 W.w.params) mainGlobals x = some none) (hn : x ≠ "__name__") (hX : c.relE X)
    (h : Ax W c vars led [a0] fun ps _ => ps.length = 1)
    (hf : c.env.kindOf x = some .globalImplicit := by first | rfl | exact kind_of (by assumption) rfl) (hdb : (x == ("__debug__" : Str)) = false := by decide) (he : starEach [a0] c.env = (false, eval a0 c.env) :: starEach [] c.env := by rfl) :
    Bd W c vars led (.Raise (some (.Call (.Name x np) [a0] [] cp)) none p :: rest) N := by
  intro s Q E a dn nx bad
  obtain ⟨m0, cells0, F0, _, _, _⟩ := a.ex
  refine wpAny_execs_cons (Raise_madeB FC FR rfl (nameX_B F0 a.ok.inK (topRead_of a.ok.top) e hv hn ⟨rfl, h s _ _ cp a (fun vs ps l1 s1 hps hvs a1 os1 => ⟨?_, fun h' ex hm => ?_⟩) bad⟩ a.ok.kind hf hdb) he rfl)
  · rw [allIs_len hvs, hps, sizeLine_eq]; decide
  · obtain ⟨m, cells, F, l, NT, G⟩ := a1.ex
    exact bad X ex _ hX ⟨cells ++ l1, fun p hp => List.mem_append_right _ (a1.sub p hp), .inr (.inl ⟨s1.heap, m, F, NT, hm.newExc, G⟩)⟩ os1
theorem cp_eq_str (x y : Str) : Cp W c led .Eq (.str x) (.str y) (x == y) := by
  rintro s Q E _ _ vars _ ⟨t, rfl⟩ ⟨u, rfl⟩ q; exact PyProof.Rows.eq_str q
theorem cp_ne_str (x y : Str) : Cp W c led .NotEq (.str x) (.str y) (x != y) := by
  rintro s Q E _ _ vars _ ⟨t, rfl⟩ ⟨u, rfl⟩ q; exact PyProof.Rows.ne_str q
end
end Mine
set_option maxRecDepth 100000
namespace Mine
section
variable {W : Wd} {c : Cx} {vars : Vars} {led : Led} {Φ : PV → Led → Prop}
theorem x_min {x y : Expr} {np p : Pos} (e : nsIn (hd.heap_39 W.w.params) mainGlobals "min" = some none) (h : Ax W c vars led [x, y] fun ps l => ∃ i j, ps = [.int i, .int j] ∧ Φ (.int (if j < i then j else i)) l)
    (hf : c.env.kindOf "min" = some .globalImplicit := by first | rfl | exact kind_of (by assumption) rfl) (he : starEach [x, y] c.env = (false, eval x c.env) :: starEach [y] c.env := by rfl) (hp : (backTo p (starEach [y] c.env)).any (·.1) = false := by rfl) :
    Wx W c vars led (.Call (.Name "min" np) [x, y] [] p) Φ := by
  intro s Q E a q bad
  obtain ⟨m0, cells0, F0, _, _, _⟩ := a.ex
  refine Call_ (nameX_B F0 a.ok.inK (topRead_of a.ok.top) e PyProof.Rows.Boot.«min» (by decide) (callWith_builtin1 (h s _ _ p a (fun vs ps l1 s1 hps hvs a1 os1 => ?_) bad) he hp) a.ok.kind hf (by decide))
  obtain ⟨i, j, rfl, hΦ⟩ := hps
  obtain ⟨_, _, rfl, ⟨t1, rfl⟩, _, _, rfl, ⟨t2, rfl⟩, rfl⟩ := hvs
  obtain ⟨m, cells, F, l, ⟨q1, q2, u1, u2, off, N⟩, G⟩ := a1.ex
  exact min_two_N rfl F N fun h' tk F' N' => q _ _ _ _ hΦ ⟨_, rfl⟩ ⟨a1.ok, a1.sub, m, cells, F', l, ⟨q1, q2, u1, u2, off, N'⟩, G⟩ os1
/-- how a method call reads -/
def Mc (c : Cx) (o : Expr) (name : Str) (apos pos : Pos) (args : List Expr) : Prop := ∃ pl : Sem Bool, eval (.Call (.Attribute o name apos) args [] pos) c.env = (do
      let ov ← eval o c.env
      standAt apos.atName
      let (f, first) ← holding [ov] (getMethod ov name pl)
      callWith pos f first (backTo pos (starEach args c.env)) [])
/-- `try: i = HAAB.index(k)  except ValueError as n: raise ValueError(fmt.format(k)) from n` -/
theorem b_try_ha {i k n : Str} {kv : Str} {p1 p2 p3 p4 p5 p6 p7 p8 p9 p10 p11 p12 p13 p14 p15 p16 : Pos} {rest : List Stmt} {N : Vars → Led → Prop} (hkv : vars.lookup k = some (.str kv)) (hkd : (k == ("__debug__" : Str)) = false) (hkn : k ≠ n) (hnm : kv ∈ names)
    (eH : nsIn (hd.heap_39 W.w.params) mainGlobals "HAAB" = some (some (.ref 29))) (eV : nsIn (hd.heap_39 W.w.params) mainGlobals "ValueError" = some none) (hX : kv ∉ haabs → c.relE "ValueError") (hi : c.env.kindOf i = some .local) (hn : c.env.kindOf n = some .local) (hk : c.env.kindOf k = some .local) (hkH : c.env.kindOf "HAAB" = some .globalImplicit) (hkV : c.env.kindOf "ValueError" = some .globalImplicit) (hnd : (n == ("__debug__" : Str)) = false)
    (mc1 : Mc c (.Name "HAAB" p2) "index" p3 p5 [.Name k p4]) (mc2 : Mc c (.Constant (.str "'{0}' is not a valid Haab' month") 0 p9) "format" p10 p12 [.Name k p11])
    (h : ∀ j : Int, 0 ≤ j → j < 19 → kv = HN j → Bd W c ((i, .int j) :: vars) led rest N) :
    Bd W c vars led (.Try [.Assign [.Name i p1] (.Call (.Attribute (.Name "HAAB" p2) "index" p3) [.Name k p4] [] p5) p6] [.ExceptHandler (some (.Name "ValueError" p7)) (some n) [.Raise (some (.Call (.Name "ValueError" p8) [.Call (.Attribute (.Constant (.str "'{0}' is not a valid Haab' month") 0 p9) "format" p10) [.Name k p11] [] p12] [] p13)) (some (.Name n p14)) p15] p16] [] [] p6 :: rest) N := by
  intro s Q E a dn nx bad
  obtain ⟨m, cells, F, l, ⟨q1, q2, u1, u2, off, NN⟩, G⟩ := a.ex
  have hA := a.ok.deep
  have hl := l k _ hkv
  rcases hl with ⟨_, v, hm, tv, rfl⟩ | ⟨hk', _⟩ | ⟨hk', _⟩
  rotate_left
  · rw [hk] at hk'; cases hk'
  · rw [hk] at hk'; cases hk'
  refine wpAny_execs_cons ?_
  rw [hA]
  refine wpAny_Try_except ?_
  obtain ⟨pl1, he1⟩ := mc1
  obtain ⟨pl2, he2⟩ := mc2
  refine wpAny_execs_cons (wpAny_Assign_Name (MethodCall_ (nameX_K F a.ok.inK (topRead_of a.ok.top) eH (meth_29 F a.ok.inK ?_) a.ok.kind hkH (by decide)) he1))
  refine callWith_method1 ?_
  refine args_cons (nameX_L F hm (args_nil ?_) a.ok.kind hk hkd)
  refine index_ha (by rw [← hA]; rfl) F a.ok.inK hnm (fun j j0 j1 hj => ?_) (fun hno h' tk e hx => ?_)
  · rw [← hA]
    refine st_local (pv := .int j) hi ⟨_, rfl⟩ (a.toks _) fun s' a' os' => ?_
    refine wpAny_execs_nil ?_
    refine wpAny_execs_nil ?_
    exact h j j0 j1 hj s' Q E a' (by rw [os']; exact dn) (by rw [os']; exact nx) (by rw [os']; exact bad)
  · refine catch_as (T' := "ValueError") a.ok.below F NN hx a.ok.bok.1 a.ok.bok.2 eV PyProof.Rows.Boot.«ValueError» (by decide) PySem.F.isExc_ValueError PySem.F.notTuple_ValueError (by rw [isSubtype_type]; kernel_rfl) (fun h₂ g₂ tk₂ T oe oT vs ts e1 e2 e3 e4 F₂ N₂ K₂ X₂ T₂ U₂ => ?_) a.ok.kind hkV hn (by decide)
    have hpn : (fun y => if y = n then some (Value.ref e) else m y) n = some (.ref e) := if_pos rfl
    refine suite_from (X := "ValueError") (X2 := "ValueError") PySem.F.excCall_ValueError PySem.F.excRaise_ValueError PySem.F.excRaise_ValueError K₂ F₂ N₂ hpn e1 e2 e3 X₂ T₂ eV PyProof.Rows.Boot.«ValueError» (by decide) ?_ rfl a.ok.kind hkV hn (by decide) hnd
    show wpAny (model pw W.w) _ (eval (Expr.Call (Expr.Attribute (Expr.Constant (Const.str "'{0}' is not a valid Haab' month") 0 p9) "format" p10) [Expr.Name k p11] [] p12) c.env) _ _ _
    rw [he2]
    refine wpAny_bind (wpAny_Constant_str ?_)
    refine wpAny_bind (wpAny_standAt (wpAny_bind (wpAny_holding ?_)))
    with_reducible refine KFm.method ?_
    dsimp only
    refine callWith_method1 ?_
    refine args_cons (nameX_L F₂ ((if_neg hkn).trans hm) ?_ a.ok.kind hk hkd)
    refine args_nil ?_
    refine fmt_ha (names_len _ hnm).2 fun T9 t9 n9 => ?_
    refine argQ_mk F₂ hpn N₂ fun h' tk' ex nt => ?_
    exact bad _ ex _ (hX hno) ⟨cells ++ led, fun p hp => List.mem_append_right _ (a.sub p hp), .inr (.inr ⟨g₂, q1, q2, u1, u2, U₂, nt, G⟩)⟩ rfl
end
end Mine
set_option maxRecDepth 100000
namespace Mine
/-- what _haab_count gives -/
def HcP (x : Int) (k : Str) (pv : PV) (own : Led) : Prop := own = [] ∧ 0 ≤ x ∧ x ≤ 19 ∧ ∃ i, 0 ≤ i ∧ i < 19 ∧ k = HN i ∧ pv = .int (i * 20 + x)
def HcE (x : Int) (k : Str) (X : String) : Prop := (X = "IndexError" ∧ (x < 0 ∨ 19 < x)) ∨ (X = "ValueError" ∧ 0 ≤ x ∧ x ≤ 19 ∧ k ∉ haabs)
theorem f_haab_count {W : Wd} (x : Int) (k : Str) (h1 : k ∈ names) : Fn W 86 2 [.int x, .str k] [] (HcP x k) (HcE x k) := by
  refine fn_enter (names := ["day", "month"]) rfl rfl (by rintro s _ ⟨v1, _, rfl, h1, v2, _, rfl, h2, rfl⟩; exact BindsTo.of_eq rfl) ?_
  intro c hcs hpost hrelE room hreq
  refine b_if (t_or (t_cmp (x_pure (Pe.name rfl rfl) (x_pure Pe.int ⟨_, cp_lt _ _, fun ht => ⟨fun _ => ?_, fun h => nomatch h⟩, fun hf => t_cmp (x_pure (Pe.name rfl rfl) (x_pure Pe.int ⟨_, cp_gt _ _, fun ht => ?_, fun hf2 => b_nil ?_⟩))⟩))))
  · exact b_raise PySem.F.excCall_IndexError PySem.F.excRaise_IndexError PyProof.Rows.Boot.«IndexError» (by k_is) (by decide) (by rw [hrelE]; exact Or.inl ⟨rfl, Or.inl (of_decide_eq_true ht)⟩) (a_pure Pe.str (a_nil rfl))
  · exact b_raise PySem.F.excCall_IndexError PySem.F.excRaise_IndexError PyProof.Rows.Boot.«IndexError» (by k_is) (by decide) (by rw [hrelE]; exact Or.inl ⟨rfl, Or.inr (of_decide_eq_true ht)⟩) (a_pure Pe.str (a_nil rfl))
  have hx0 : 0 ≤ x := by simpa using hf
  have hx1 : x ≤ 19 := by simpa using hf2
  refine b_try_ha rfl (by decide) (by decide) h1 (by k_is) (by k_is) (fun hno => by rw [hrelE]; exact Or.inr ⟨rfl, hx0, hx1, hno⟩) (kind_of hcs rfl) (kind_of hcs rfl) (kind_of hcs rfl) (kind_of hcs rfl) (kind_of hcs rfl) (by decide) (by cases c; cases hcs; exact ⟨_, rfl⟩) (by cases c; cases hcs; exact ⟨_, rfl⟩) fun j hj0 hj1 hj => ?_
  refine b_return (x_bin (x_min (by k_is) (a_pure (Pe.bin (Pe.name rfl rfl) Pe.int (Ar.mul _ _ (IntMulOk.of_right (by decide)))) (a_pure Pe.int (a_nil ⟨_, _, rfl, ?_⟩)))))
  refine x_pure (Pe.name rfl rfl) ⟨_, _, _, rfl, rfl, Ar.add _ _, ends_of hpost (own := []) ⟨rfl, hx0, hx1, j, hj0, hj1, hj, ?_⟩ fun _ h => h⟩
  rw [if_neg (by omega)]
end Mine
set_option maxRecDepth 100000
namespace Mine
theorem f_month_length {W : Wd} (k : Str)  : Fn W 136 1 [.str k] [] (IntP (if k = "Wayeb'" then 5 else 20)) (fun _ => False) := by
  refine fn_enter (names := ["month"]) rfl rfl (by rintro s _ ⟨v1, _, rfl, h1, rfl⟩; exact BindsTo.of_eq rfl) ?_
  intro c hcs hpost hrelE room hreq
  refine b_if (t_cmp (x_pure (Pe.name rfl rfl) (x_pure Pe.str ⟨_, cp_eq_str _ _, fun ht => ?_, fun hf => b_nil ?_⟩)))
  · exact b_return (x_pure Pe.int (ends_of hpost ⟨by rw [if_pos (eq_of_beq ht)], rfl⟩ fun _ h => h))
  · exact b_return (x_pure Pe.int (ends_of hpost ⟨by rw [if_neg (by simpa using hf)], rfl⟩ fun _ h => h))
end Mine
set_option maxRecDepth 100000
namespace Mine
section
variable {W : Wd} {c : Cx} {vars : Vars} {led : Led} {Φ : PV → Led → Prop}
/-- `a, b = e` -/
theorem b_unpack2 {x y : Str} {e : Expr} {k : Nat} {p1 p2 tp p : Pos} {rest : List Stmt} {N : Vars → Led → Prop} (hx : c.env.kindOf x = some .local) (hy : c.env.kindOf y = some .local)
    (h : Wx W c vars led e fun pv l => ∃ t v1 v2 a b, pv = .ref t ∧ (t, Tup #[v1, v2]) ∈ l ∧ PV.Is a v1 ∧ PV.Is b v2 ∧ Bd W c ((y, b) :: (x, a) :: vars) l rest N)
    (hs : swapsWithSole [.Tuple [.Name x p1, .Name y p2] k tp] e p.line c.env = pure false := by rfl) (hw : swappedStores [.Tuple [.Name x p1, .Name y p2] k tp] e c.env = pure none := by rfl) :
    Bd W c vars led (.Assign [.Tuple [.Name x p1, .Name y p2] k tp] e p :: rest) N := by
  intro s Q E a dn nx bad
  refine wpAny_execs_cons (Assign_Tuple (h s _ _ a (fun v pv l s1 hw' hv a1 os1 => ?_) bad) hs hw)
  obtain ⟨t, v1, v2, pa, pb, rfl, hm, ha, hb, hB⟩ := hw'
  obtain rfl : v = .ref t := hv
  obtain ⟨m, cells, F, lo, ⟨q1, q2, u1, u2, off, NN⟩, G⟩ := a1.ex
  have hT : IsTup s1.heap t #[v1, v2] := ⟨_, (NN _ (List.mem_cons_of_mem _ (List.mem_cons_of_mem _ (List.mem_append_right _ hm)))).1, rfl, _, rfl⟩
  rw [assign_Tuple]
  refine wpAny_bind (wpAny_standAt ?_)
  refine unpack_tuple rfl hT rfl rfl fun h' hx' => ?_
  have a2 : At W c vars l { s1 with heap := h' } := ⟨a1.ok, a1.sub, m, cells, F.extBut hx' (Nat.le_refl _), lo, ⟨q1, q2, u1, u2, off, fun p hp => ⟨hx' _ _ (Nat.ne_of_lt (Heap.lt_size (NN p hp).1)) (NN p hp).1, (NN p hp).2⟩⟩, G⟩
  show wpAny (model pw W.w) c.A (do holding [v2] (assign (.Name x p1) c.env v1); do holding [] (assign (.Name y p2) c.env v2); pure ()) _ E _
  refine wpAny_bind (wpAny_holding (assign_Name (st_local hx ha a2 fun s3 a3 os3 => ?_)))
  refine wpAny_bind (wpAny_holding (assign_Name (st_local hy hb a3 fun s4 a4 os4 => ?_)))
  have e4 : s4.os = s.os := (os4.trans os3).trans os1
  exact wpAny_pure (hB s4 Q E a4 (by rw [e4]; exact dn) (by rw [e4]; exact nx) (by rw [e4]; exact bad))
end
end Mine
set_option maxRecDepth 100000
namespace Mine
theorem hn_all : ∀ i : Fin 19, HN (i.val : Int) ∈ haabs ∧ HN (i.val : Int) ∈ names ∧ ∀ j : Fin 19, HN (i.val : Int) = HN (j.val : Int) → i = j := by simp only [HN_eq]; decide +kernel
theorem hn_mem {i : Int} (h0 : 0 ≤ i) (h1 : i < 19) : HN i ∈ haabs ∧ HN i ∈ names := by
  have := hn_all ⟨i.toNat, by omega⟩
  rw [show (((⟨i.toNat, by omega⟩ : Fin 19).val : Nat) : Int) = i from Int.toNat_of_nonneg h0] at this
  exact ⟨this.1, this.2.1⟩
theorem hn_inj {i j : Int} (h0 : 0 ≤ i) (h1 : i < 19) (h2 : 0 ≤ j) (h3 : j < 19) (e : HN i = HN j) : i = j := by
  have := (hn_all ⟨i.toNat, by omega⟩).2.2 ⟨j.toNat, by omega⟩
  rw [show (((⟨i.toNat, by omega⟩ : Fin 19).val : Nat) : Int) = i from Int.toNat_of_nonneg h0, show (((⟨j.toNat, by omega⟩ : Fin 19).val : Nat) : Int) = j from Int.toNat_of_nonneg h2] at this
  have := Fin.val_eq_of_eq (this e)
  simp only at this
  omega
def NhP (k : Str) (jd : Int) (pv : PV) (own : Led) : Prop := own = [] ∧ 584283 ≤ jd ∧ ∃ i, 0 ≤ i ∧ i < 19 ∧ k = HN i ∧ pv = .int (jd + (i * 20 + 1 - HaC jd) % 365)
def NhE (k : Str) (jd : Int) (X : String) : Prop := (X = "IndexError" ∧ jd < 584283) ∨ (X = "ValueError" ∧ 584283 ≤ jd ∧ k ∉ haabs)
theorem f_next_haab {W : Wd} (k : Str) (jd : Int) (h1 : k ∈ names) (h2 : 584283 ≤ jd → k ≠ HN (HaC jd / 20)) : Fn W 115 3 [.str k, .int jd] [] (NhP k jd) (NhE k jd) := by
  refine fn_enter (names := ["month", "jd"]) rfl rfl (by rintro s _ ⟨v1, _, rfl, h1, v2, _, rfl, h2, rfl⟩; exact BindsTo.of_eq rfl) ?_
  intro c hcs hpost hrelE room hreq
  refine' b_glob (x := "EPOCH") (pv := .int 584283) ?za1 ?zb1 ?zc1; (case za1 => k_is); (case zc1 => exact ⟨_, rfl⟩); case' zb1 => skip
  refine b_if (t_cmp (x_pure (Pe.name rfl rfl) (x_pure (Pe.name rfl rfl) ⟨_, cp_lt _ _, fun ht => ?_, fun hf => b_nil ?_⟩)))
  · exact b_raise PySem.F.excCall_IndexError PySem.F.excRaise_IndexError PyProof.Rows.Boot.«IndexError» (by k_is) (by decide) (by rw [hrelE]; exact Or.inl ⟨rfl, of_decide_eq_true ht⟩) (a_pure Pe.str (a_nil rfl))
  have hj : 584283 ≤ jd := by simpa using hf
  have hb := haC_b jd
  have hm := hn_mem (i := HaC jd / 20) (by omega) (by omega)
  refine b_unpack2 (kind_of hcs rfl) (kind_of hcs rfl) (x_fn (f_to_haab jd (by omega)) (by k_is) room (fun _ h => h.elim) (a_pure (Pe.name rfl rfl) (a_nil ⟨rfl, (fun _ h => nomatch h), ?_⟩)))
  rintro _ _ ⟨t, tk, tk', rfl, rfl⟩
  refine ⟨t, _, _, .int (HaC jd % 20), .str (HN (HaC jd / 20)), rfl, List.mem_cons_self, ⟨_, rfl⟩, ⟨_, rfl⟩, ?_⟩
  refine b_if (t_cmp (x_pure (Pe.name rfl rfl) (x_pure (Pe.name rfl rfl) ⟨_, cp_eq_str _ _, fun ht => absurd (eq_of_beq ht).symm (h2 hj), fun hf2 => ?_⟩)))
  refine b_assign (kind_of hcs rfl) (x_fn (f_haab_count (HaC jd % 20) (HN (HaC jd / 20)) hm.2) (by k_is) room (fun _ h => ?_) (a_pure (Pe.name rfl rfl) (a_pure (Pe.name rfl rfl) (a_nil ⟨rfl, (fun _ h => nomatch h), ?_⟩))))
  · rcases h with ⟨_, h⟩ | ⟨_, _, _, h⟩
    · omega
    · exact absurd hm.1 h
  rintro _ _ ⟨rfl, c0, c1, i, i0, i1, ie, rfl⟩
  obtain rfl := hn_inj (by omega) (by omega) i0 i1 ie
  refine b_assign (kind_of hcs rfl) (x_fn (f_haab_count 1 k h1) (by k_is) room (fun X h => ?_) (a_pure Pe.int (a_pure (Pe.name rfl rfl) (a_nil ⟨rfl, (fun _ h => nomatch h), ?_⟩))))
  · rcases h with ⟨_, h⟩ | ⟨e, _, _, h⟩
    · omega
    · rw [hrelE]; exact Or.inr ⟨e, hj, h⟩
  rintro _ _ ⟨rfl, d0, d1, j, j0, j1, je, rfl⟩
  refine b_assign (kind_of hcs rfl) (x_pure (Pe.bin (Pe.bin (Pe.name rfl rfl) (Pe.name rfl rfl) (Ar.sub _ _)) Pe.int (Ar.mod _ _ (by decide))) (b_nil ?_))
  refine b_return (x_pure (Pe.bin (Pe.name rfl rfl) (Pe.name rfl rfl) (Ar.add _ _)) (ends_of hpost (own := []) ⟨rfl, hj, j, j0, j1, je, ?_⟩ fun _ h => List.mem_cons_of_mem _ h))
  rw [show HaC jd / 20 * 20 + HaC jd % 20 = HaC jd by omega]
end Mine
set_option maxRecDepth 100000
namespace Mine
theorem f_from_jd {W : Wd} (jd : Int) (h1 : jd < 584283) : Fn W 44 1 [.int jd] [] (fun _ _ => False) (fun X => X = "ValueError") := by
  refine fn_enter (names := ["jd"]) rfl rfl (by rintro s _ ⟨v1, _, rfl, h1, rfl⟩; exact BindsTo.of_eq rfl) ?_
  intro c hcs hpost hrelE room hreq
  refine' b_glob (x := "EPOCH") (pv := .int 584283) ?za1 ?zb1 ?zc1; (case za1 => k_is); (case zc1 => exact ⟨_, rfl⟩); case' zb1 => skip
  refine b_assign (kind_of hcs rfl) (x_pure (Pe.bin (Pe.name rfl rfl) (Pe.name rfl rfl) (Ar.sub _ _)) ?_)
  refine b_if (t_cmp (x_pure (Pe.name rfl rfl) (x_pure Pe.int ⟨_, cp_lt _ _, fun ht => ?_, fun hf => absurd (of_decide_eq_false hf) (by omega)⟩)))
  exact b_raise PySem.F.excCall_ValueError PySem.F.excRaise_ValueError PyProof.Rows.Boot.«ValueError» (by k_is) (by decide) (by rw [hrelE]) (a_pure Pe.str (a_nil rfl))
end Mine
set_option maxRecDepth 100000
namespace Mine
section
variable {W : Wd} {c : Cx} {vars : Vars} {led : Led} {Φ : PV → Led → Prop}
/-- `f(*e)`, e a pair of the ledger -/
theorem x_star {f : Str} {fa : Addr} {x : Expr} {k : Nat} {pvs : List PV} {post : PV → Led → Prop} {relE' : String → Prop} {p p1 p' : Pos} (C : Fn W fa k pvs [] post relE') (e : nsIn (hd.heap_39 W.w.params) mainGlobals f = some (some (.ref fa)))
    (hr : c.Room k) (hE : ∀ X, relE' X → c.relE X) (h : Wx W c vars led x fun pv l1 => ∃ t vs, pv = .ref t ∧ (t, Tup vs.toArray) ∈ l1 ∧ AllIs pvs vs ∧ pvs.length < 100 ∧ ∀ pv own, post pv own → Φ pv (own ++ l1)) (hkeep : keepIn (hd.heap_39 W.w.params) (.ref fa) = true)
    (hf : c.env.kindOf f = some .globalImplicit := by first | rfl | exact kind_of (by assumption) rfl) (hdb : (f == ("__debug__" : Str)) = false := by decide) : Wx W c vars led (.Call (.Name f p) [.Starred x p1] [] p') Φ := by
  intro s Q E a q bad
  obtain ⟨m0, cells0, F0, _, _, _⟩ := a.ex
  refine Call_ (nameX_K F0 a.ok.inK (topRead_of a.ok.top) e (callWith_S (first := []) a.ok.inK hkeep (h s _ _ a (fun v pv l1 s1 hw hv a1 os1 => ?_) bad)) a.ok.kind hf hdb)
  obtain ⟨t, vs, rfl, hm, hvs, hlen, hΦ⟩ := hw
  obtain rfl : v = .ref t := hv
  obtain ⟨m, cells, F, l, ⟨q1, q2, u1, u2, off, N⟩, G⟩ := a1.ex
  refine star_seq F N (List.mem_cons_of_mem _ (List.mem_cons_of_mem _ (List.mem_append_right _ hm))) rfl rfl (.inr rfl) (ws := vs) rfl ?_ fun h' F' N' => ⟨Frag.In.keeps a1.ok.inK F'.keep, ?_⟩
  · rw [List.size_toArray, allIs_len hvs]; have := sizeLine_big; omega
  · refine C c _ vs m (cells ++ l1) Q E a1.ok hr hvs F' ⟨q1, q2, u1, u2, off, N'⟩ G (fun p hp => nomatch hp) (fun v pv own s2 hp hv F2 NT2 G2 os2 => ?_) fun X e s2 hX hG os2 => ?_
    · refine q v pv (own ++ l1) s2 (hΦ pv own hp) hv ⟨a1.ok, fun p hm => List.mem_append_right _ (a1.sub p hm), m, cells, F2, l, newsT_perm NT2 fun p hm => ?_, G2⟩ (os2.trans os1)
      exact (by simp only [List.mem_append] at hm ⊢; rcases hm with h | h | h <;> simp [h])
    · exact bad X e s2 (hE X hX) ⟨cells ++ l1, fun p hm => List.mem_append_right _ (a1.sub p hm), .inl hG⟩ (os2.trans os1)
end
end Mine
set_option maxRecDepth 100000
namespace Mine
theorem tn_all : ∀ i : Fin 20, TN (i.val : Int) ∈ tzols ∧ TN (i.val : Int) ∈ names ∧ ∀ j : Fin 20, TN (i.val : Int) = TN (j.val : Int) → i = j := by simp only [TN_eq]; decide +kernel
theorem tn_mem {i : Int} (h0 : 0 ≤ i) (h1 : i < 20) : TN i ∈ tzols ∧ TN i ∈ names := by
  have := tn_all ⟨i.toNat, by omega⟩
  rw [show (((⟨i.toNat, by omega⟩ : Fin 20).val : Nat) : Int) = i from Int.toNat_of_nonneg h0] at this
  exact ⟨this.1, this.2.1⟩
theorem tn_inj {i j : Int} (h0 : 0 ≤ i) (h1 : i < 20) (h2 : 0 ≤ j) (h3 : j < 20) (e : TN i = TN j) : i = j := by
  have := (tn_all ⟨i.toNat, by omega⟩).2.2 ⟨j.toNat, by omega⟩
  rw [show (((⟨i.toNat, by omega⟩ : Fin 20).val : Nat) : Int) = i from Int.toNat_of_nonneg h0, show (((⟨j.toNat, by omega⟩ : Fin 20).val : Nat) : Int) = j from Int.toNat_of_nonneg h2] at this
  have := Fin.val_eq_of_eq (this e)
  simp only at this
  omega
def NtP (x : Int) (k : Str) (jd : Int) (pv : PV) (own : Led) : Prop := own = [] ∧ 584283 ≤ jd ∧ 1 ≤ x ∧ x ≤ 13 ∧ ∃ i j, 0 ≤ i ∧ i < 20 ∧ k = TN i ∧ 1 ≤ j ∧ j ≤ 260 ∧ j % 13 = x % 13 ∧ j % 20 = (i + 1) % 20 ∧ pv = .int (jd + (j - (TzC jd + 1)) % 260)
def NtE (x : Int) (k : Str) (jd : Int) (X : String) : Prop := (X = "IndexError" ∧ (jd < 584283 ∨ x < 1 ∨ 13 < x)) ∨ (X = "ValueError" ∧ 584283 ≤ jd ∧ 1 ≤ x ∧ x ≤ 13 ∧ k ∉ tzols)
theorem tz_day {c j i : Int} (h0 : 0 ≤ c) (h1 : c < 260) (h2 : 1 ≤ j) (h3 : j ≤ 260) (h4 : j % 13 = (c % 13 + 1) % 13) (h5 : j % 20 = (c % 20 + 1) % 20) : j = c + 1 := by omega
theorem f_next_tzolkin {W : Wd} (t : Addr) (x : Int) (k : Str) (u1 u2 : Tok) (jd : Int) (h1 : k ∈ names) : Fn W 122 7 [.ref t, .int jd] [(t, Tup #[.int x u1, .str k u2])] (NtP x k jd) (NtE x k jd) := by
  refine fn_enter (names := ["tzolkin", "jd"]) rfl rfl (by rintro s _ ⟨v1, _, rfl, h1, v2, _, rfl, h2, rfl⟩; exact BindsTo.of_eq rfl) ?_
  intro c hcs hpost hrelE room hreq
  refine' b_glob (x := "EPOCH") (pv := .int 584283) ?za1 ?zb1 ?zc1; (case za1 => k_is); (case zc1 => exact ⟨_, rfl⟩); case' zb1 => skip
  refine b_if (t_cmp (x_pure (Pe.name rfl rfl) (x_pure (Pe.name rfl rfl) ⟨_, cp_lt _ _, fun ht => ?_, fun hf => b_nil ?_⟩)))
  · exact b_raise PySem.F.excCall_IndexError PySem.F.excRaise_IndexError PyProof.Rows.Boot.«IndexError» (by k_is) (by decide) (by rw [hrelE]; exact Or.inl ⟨rfl, Or.inl (of_decide_eq_true ht)⟩) (a_pure Pe.str (a_nil rfl))
  have hj : 584283 ≤ jd := by simpa using hf
  have hb := tzC_b jd
  have hm := tn_mem (i := TzC jd % 20) (by omega) (by omega)
  refine b_assign (kind_of hcs rfl) (x_star (f_tz_count (TzC jd % 13 + 1) (TN (TzC jd % 20)) hm.2) (by k_is) room (fun X h => ?_) (x_fn (f_to_tzolkin jd (by omega)) (by k_is) (room.mono (by decide)) (fun _ h => h.elim) (a_pure (Pe.name rfl rfl) (a_nil ⟨rfl, (fun _ h => nomatch h), ?_⟩))) (by rfl))
  · rcases h with ⟨_, h⟩ | ⟨_, _, _, h⟩
    · omega
    · exact absurd hm.1 h
  rintro _ _ ⟨t1, tk, tk', rfl, rfl⟩
  refine ⟨t1, [_, _], rfl, List.mem_cons_self, ⟨_, _, rfl, ⟨_, rfl⟩, _, _, rfl, ⟨_, rfl⟩, rfl⟩, (show 2 < 100 by decide), ?_⟩
  rintro _ _ ⟨rfl, a1, a2, i, j, b1, b2, b3, b4, b5, b6, b7, rfl⟩
  obtain rfl := tn_inj (by omega) (by omega) b1 b2 b3
  have hd := tz_day (i := 0) hb.1 hb.2 b4 b5 b6 b7
  refine b_assign (kind_of hcs rfl) (x_star (f_tz_count x k h1) (by k_is) room (fun X h => ?_) (x_pure (Pe.name rfl rfl) ⟨t, [_, _], rfl, List.mem_cons_of_mem _ (hreq _ List.mem_cons_self), ⟨_, _, rfl, ⟨_, rfl⟩, _, _, rfl, ⟨_, rfl⟩, rfl⟩, (show 2 < 100 by decide), ?_⟩) (by rfl))
  · rw [hrelE]
    rcases h with ⟨e, h⟩ | ⟨e, h2, h3, h⟩
    · exact Or.inl ⟨e, Or.inr h⟩
    · exact Or.inr ⟨e, hj, h2, h3, h⟩
  rintro _ _ ⟨rfl, c1, c2, i, j2, d1, d2, d3, d4, d5, d6, d7, rfl⟩
  refine b_assign (kind_of hcs rfl) (x_pure (Pe.bin (Pe.bin (Pe.name rfl rfl) (Pe.name rfl rfl) (Ar.sub _ _)) Pe.int (Ar.mod _ _ (by decide))) ?_)
  refine b_return (x_pure (Pe.bin (Pe.name rfl rfl) (Pe.name rfl rfl) (Ar.add _ _)) (ends_of hpost (own := []) ⟨rfl, hj, c1, c2, i, j2, d1, d2, d3, d4, d5, d6, d7, by rw [hd]⟩ fun _ h => List.mem_cons_of_mem _ h))
end Mine
set_option maxRecDepth 100000
namespace Mine
theorem bindL_out {kf : Str → Option NameKind} {x : Str} : ∀ {binds : List (Str × Value)} {m : Str → Option Value}, x ∉ binds.map (·.1) → bindL kf binds m x = m x
  | [], _, _ => rfl
  | (n, v) :: r, m, h => by
    rw [List.map_cons, List.mem_cons, not_or] at h
    show bindL kf r _ x = _
    rw [bindL_out h.2]
    split
    · show (if x = n then some v else m x) = m x
      rw [if_neg h.1]
    · rfl
theorem bindL_in {kf : Str → Option NameKind} {x : Str} {v : Value} : ∀ {binds : List (Str × Value)} {m : Str → Option Value}, (∀ y ∈ binds, kf y.1 = some .local) → (binds.map (·.1)).Nodup → binds.lookup x = some v → bindL kf binds m x = some v
  | (n, u) :: r, m, hl, nd, h => by
    rw [List.map_cons, List.nodup_cons] at nd
    show bindL kf r _ x = _
    rw [if_pos (hl _ List.mem_cons_self)]
    rw [List.lookup_cons] at h
    cases e : x == n with
    | true =>
      rw [e] at h; cases h
      have e := eq_of_beq e
      subst e
      rw [bindL_out nd.1]
      exact if_pos rfl
    | false => rw [e] at h; exact bindL_in (fun y hy => hl y (List.mem_cons_of_mem _ hy)) nd.2 h
theorem bindC_loc {kf : Str → Option NameKind} : ∀ {binds : List (Str × Value)} {m : Str → Option Value}, (∀ y ∈ binds, kf y.1 = some .local) → bindC kf binds m = m
  | [], _, _ => rfl
  | (n, u) :: r, m, hl => by
    show bindC kf r _ = _
    rw [if_pos (hl _ List.mem_cons_self)]
    exact bindC_loc fun y hy => hl y (List.mem_cons_of_mem _ hy)
theorem cellsAre_look {cm : Str → Option Value} {x : Str} {r : Addr} {cs : List (Str × Addr)} {cells : List (Addr × Obj)} (h : CellsAre cm cs cells) : cs.lookup x = some r → ∃ o, (r, o) ∈ cells ∧ o.data = .cell (cm x) := by
  induction h with
  | nil => intro e; simp at e
  | @cons n c o cs cells hd _ ih =>
    intro e
    rw [List.lookup_cons] at e
    cases q : x == n with
    | true => rw [q] at e; cases e; exact ⟨o, List.mem_cons_self, by rw [hd, eq_of_beq q]⟩
    | false => rw [q] at e; obtain ⟨o', h1, h2⟩ := ih e; exact ⟨o', List.mem_cons_of_mem _ h1, h2⟩
theorem cellsAre_data {cm : Str → Option Value} {cs : List (Str × Addr)} {cells : List (Addr × Obj)} (h : CellsAre cm cs cells) : ∀ p ∈ cells, ∃ u, p.2.data = .cell u := by
  induction h with
  | nil => intro p hp; simp at hp
  | cons hd _ ih => exact List.forall_mem_cons.mpr ⟨⟨_, hd⟩, ih⟩
theorem zip_all {names : List Str} {vs : List Value} {P : Str → Prop} (h : ∀ y ∈ names, P y) : ∀ y ∈ names.zip vs, P y.1 := fun _ hy => h _ (List.of_mem_zip hy).1
theorem un_look {x : Str} {pv : PV} {vars : Vars} : ∀ {cn : List Str}, (cn.map (fun y => (y, PV.un)) ++ vars).lookup x = some pv → (x ∈ cn ∧ pv = .un) ∨ vars.lookup x = some pv
  | [], h => .inr h
  | n :: r, h => by
    rw [List.map_cons, List.cons_append, List.lookup_cons] at h
    cases q : x == n with
    | true => rw [q] at h; cases h; exact .inl ⟨by rw [eq_of_beq q]; exact List.mem_cons_self, rfl⟩
    | false =>
      rw [q] at h
      rcases un_look h with ⟨h1, h2⟩ | h1
      · exact .inl ⟨List.mem_cons_of_mem _ h1, h2⟩
      · exact .inr h1
section
variable {W : Wd}
/-- as fn_enter, of a def with cells (its parameters are none) -/
theorem fn_enterC {f : Addr} {k : Nat} {pvs : List PV} {req : Led} {post : PV → Led → Prop} {relE : String → Prop} {name qual : Str} {params : Arguments} {body : List Stmt} {scope : Scope} {dV kV doc pm cdv ct oc : Value} {an od : Option Addr} {osl : Array (Option Value)} (names cn : List Str)
    (ho : (hd.heap_39 W.w.params).lookup f = some ⟨oc, od, .func (fnOf name qual params body scope dV kV doc pm an cdv ct), osl⟩) (hcd : codeIn (hd.heap_39 W.w.params) cdv qual = true)
    (hbind : ∀ s vs, AllIs pvs vs → BindsTo s (fnOf name qual params body scope dV kV doc pm an cdv ct) ⟨vs, []⟩ (names.zip vs))
    (hb : ∀ c : Cx, c.cs = scope → c.cl = cellsFrom (c.L + 1) scope.names [] → c.ccd = cdv → c.post = post → c.relE = relE → c.Room k → (∀ p ∈ req, p ∈ c.led₀) → (∀ p ∈ c.led₀, p.1 < c.L) → Bd W c (cn.map (fun y => (y, .un)) ++ names.zip pvs) c.led₀ body fun _ _ => False)
    (hcn : ∀ y ∈ cn, scope.names.lookup y = some .cell) (hcl : ∀ n, ∀ y ∈ cn, ∃ r, (cellsFrom n scope.names []).lookup y = some r)
    (hn : names.Nodup := by decide) (hloc : ∀ y ∈ names, scope.names.lookup y = some .local := by decide) (hnd : ∀ n, ((cellsFrom n scope.names []).map (·.1)).Nodup := by intro n; decide)
    (hco : scope.isCoroutine = false := by rfl) (hgen : scope.isGenerator = false := by rfl) (hk : scope.kind = .function := by rfl) : Fn W f (k + 1) pvs req post relE := by
  intro c s vs m led Q E ok room hvs F ⟨q1, q2, t1, t2, off, N⟩ G hreq hret hrex
  refine wpAny_call (code_defC ok.below F ok.inK N ok.top rfl rfl ok.kind ho hcd (Nat.lt_of_le_of_lt (Nat.le_add_right _ _) room.1) (hbind s vs hvs) (List.all_eq_true.mpr fun y hy => by rw [hloc _ (List.of_mem_zip hy).1]; rfl) (hnd 0) (fun g L' h₁ tk cells FG F' N' Y B' X' T' l1 => ?_) hco hgen hk)
  have hlo : ∀ y ∈ names.zip vs, (envOfC qual scope L' f cdv).kindOf y.1 = some .local := zip_all hloc
  have hcd' := cellsAre_data Y
  have room' : Cx.Room ⟨c.dp + 1, c.un + 3, c.gd, qual, scope, f, cdv, cellsFrom (L' + 1) scope.names [], c.env :: c.outer, c.A, c.base, g, L', led, post, relE, c.pre⟩ k := by
    obtain ⟨r1, r2⟩ := room
    exact ⟨by show c.dp + 1 + k < _; omega, by show c.un + 3 + 10 * k < _; omega⟩
  refine hb ⟨c.dp + 1, c.un + 3, c.gd, qual, scope, f, cdv, cellsFrom (L' + 1) scope.names [], c.env :: c.outer, c.A, c.base, g, L', led, post, relE, c.pre⟩ rfl rfl rfl rfl rfl room' hreq (fun p hp => l1 p (.tail _ (.tail _ hp))) _ _ _ ⟨⟨B', X', T', ok.bok, hk, rfl⟩, fun p hp => hp, _, cells, F', fun x pv hx => ?_, ⟨q1, q2, t1, t2, ?_, ?_⟩, G⟩ ?_ (fun _ _ _ h => h.elim) ?_
  · rcases un_look hx with ⟨hxc, rfl⟩ | hx
    · obtain ⟨r, hr⟩ := hcl (L' + 1) x hxc
      obtain ⟨o, hm, hd⟩ := cellsAre_look Y hr
      exact .inr (.inl ⟨hcn x hxc, r, o, _, hr, hm, hd, .inr ⟨rfl, by rw [bindC_loc hlo]⟩⟩)
    · obtain ⟨v, hv, hi⟩ := zip_is hvs hx
      exact .inl ⟨hloc x (List.of_mem_zip (mem_look hv)).1, v, bindL_in hlo (hn.sublist zip_sub) hv, hi⟩
  · intro p hp
    rcases List.mem_append.mp hp with hp | hp
    · obtain ⟨u, hu⟩ := hcd' p hp
      have h1 := (N' p (List.mem_append_left _ hp)).1
      have h2 := (N' (95, tabO q1) (List.mem_append_right _ (.head _))).1
      have h3 := (N' (124, tabO q2) (List.mem_append_right _ (.tail _ (.head _)))).1
      refine ⟨fun e => ?_, fun e => ?_⟩
      · rw [e, h2] at h1; injection h1 with h1; rw [← h1] at hu; cases hu
      · rw [e, h3] at h1; injection h1 with h1; rw [← h1] at hu; cases hu
    · exact off p hp
  · intro p hp
    refine N' p ?_
    rcases List.mem_cons.mp hp with rfl | hp
    · exact List.mem_append_right _ (.head _)
    · rcases List.mem_cons.mp hp with rfl | hp
      · exact List.mem_append_right _ (.tail _ (.head _))
      · rcases List.mem_append.mp hp with hp | hp
        · exact List.mem_append_left _ hp
        · exact List.mem_append_right _ (.tail _ (.tail _ hp))
  · rintro v pv own ledf m1 s' hp hv F1 ⟨p1, p2, u1, u2, off1, N1⟩ hs G1 os1
    exact leaveK_ F1 N1 fun F2 N2 => hret v pv own s' hp hv F2 (newsT_perm ⟨p1, p2, u1, u2, off1, N2⟩ hs) G1 os1
  · rintro X e s' hX ⟨ledh, hsub, hH⟩ os1
    rcases hH with ⟨G0, m0, p1, p2, u1, u2, F0, U0, R0, G1⟩ | ⟨h0, m0, F0, ⟨p1, p2, u1, u2, off0, N0⟩, hx, G1⟩ | ⟨g1, p1, p2, u1, u2, U0, nt, G1⟩
    · exact leave_on B' F0 R0 U0 fun h' R1 U1 => hrex X e _ hX ⟨g, m, p1, p2, u1, u2, FG, U1, RaisedN.sub R1 (led_sub (List.mem_cons_self) (List.mem_cons_of_mem _ List.mem_cons_self) fun q hq => List.mem_cons_of_mem _ (List.mem_cons_of_mem _ (hsub q hq))), G1⟩ os1
    · exact leave_made B' F0 N0 hx (fun h' R1 U1 => hrex X e _ hX ⟨g, m, p1, p2, u1, u2, FG, U1, RaisedN.sub R1 (led_sub (List.mem_cons_self) (List.mem_cons_of_mem _ List.mem_cons_self) fun q hq => List.mem_cons_of_mem _ (List.mem_cons_of_mem _ (hsub q hq))), G1⟩ os1) hk
    · exact leave_noted nt fun h' R1 U1 => hrex X e _ hX ⟨g, m, p1, p2, u1, u2, FG, U0.trans U1, RaisedN.sub R1 (led_sub (List.mem_cons_self) (List.mem_cons_of_mem _ List.mem_cons_self) fun q hq => List.mem_cons_of_mem _ (List.mem_cons_of_mem _ (hsub q hq))), G1⟩ os1
end
section
variable {W : Wd} {c : Cx} {vars : Vars} {led : Led} {Φ : PV → Led → Prop}
/-- `set(x + d for x in range(a, b, st))` in next_tzolkin_haab's frame: d one of its cells -/
theorem x_setgen {x dn : Str} {r : Addr} {a b st d : Int} {n : Nat} {np p1 p2 p3 p4 p5 p6 p7 p8 px pos p' : Pos} {scope : Scope} {kk1 kk2 kk3 : Nat} (eS : nsIn (hd.heap_39 W.w.params) mainGlobals "set" = some none) (eR : nsIn (hd.heap_39 W.w.params) mainGlobals "range" = some none)
    (hkS : c.env.kindOf "set" = some .globalImplicit) (hkR : c.env.kindOf "range" = some .globalImplicit) (hkD : c.env.kindOf dn = some .cell)
    (hcd : c.ccd = .ref 128) (hroom : c.dp < recursionLimit) (hclos : closureFor scope c.env = pure [(dn, r)]) (hr : c.cl.lookup dn = some r) (hv : vars.lookup dn = some (.int d))
    (hcell : ∀ y ∈ scope.names, y.2 ≠ .cell) (h0 : scope.names.lookup (".0" : Str) = some NameKind.local) (hx : scope.names.lookup x = some .local) (hxd : scope.names.lookup dn = some .free) (hkind : scope.kind = .function) (hco : scope.isCoroutine = false)
    (hst : st ≠ 0) (hsmall : Builtin.Range.small a b st = true) (hn : Builtin.Range.rangeSize a b st = (n : Int)) (hpy : Builtin.divisionGoesByPylong (b - a) st = false)
    (e1 : (x == ("__debug__" : Str)) = false) (e2 : (dn == ("__debug__" : Str)) = false) (e3 : (dn == ("__classdict__" : Str)) = false) (hb : n + 1 < scanBound)
    (hfold : ∀ y, genFold (.Call (.Name "range" p4) [.Constant (.int a) kk1 p5, .Constant (.int b) kk2 p6, .Constant (.int st) kk3 p7] [] p8) c.env y = pure y)
    (hΦ : ∀ S o, (∀ p ∈ led, p.1 < S) → o.SetObjOf (intKind pw W.w) (fun k' => (firstMet (fun i => a + i * st + d) n).any (· == k')) (firstMet (fun i => a + i * st + d) n).length → Φ (.ref S) ((S, o) :: led)) :
    Wx W c vars led (.Call (.Name "set" np) [.GeneratorExp (.BinOp (.Name x p1) .Add (.Name dn p2) p3) [⟨.Name x px, .Call (.Name "range" p4) [.Constant (.int a) kk1 p5, .Constant (.int b) kk2 p6, .Constant (.int st) kk3 p7] [] p8, [], 0⟩] scope pos] [] p') Φ := by
  intro s Q E at_ q bad
  obtain ⟨m, cells, F, l, ⟨q1, q2, t1, t2, off, N⟩, G⟩ := at_.ex
  refine Call_ (nameX_B F at_.ok.inK (topRead_of at_.ok.top) eS PyProof.Rows.Boot.«set» (by decide) (PyProof.Rows.callWith_type1 ?_) at_.ok.kind hkS (by decide))
  refine args_cons (gen_start (cl := [(dn, r)]) rfl hco hclos hcell h0 hx hkind hroom ?_ hfold)
  refine Call_ (nameX_B F at_.ok.inK (topRead_of at_.ok.top) eR PyProof.Rows.Boot.«range» (by decide) (PyProof.Rows.callWith_type1 ?_) at_.ok.kind hkR (by decide))
  refine args_cons (wpAny_Constant_int ?_)
  refine args_cons (wpAny_Constant_int ?_)
  refine args_cons (wpAny_Constant_int ?_)
  refine args_nil ?_
  refine call_range_3 hst ?_ (.inl hpy)
  have kp : ∀ (o : Obj) b x, s.heap.get? b = some x → (s.heap.push o).get? b = some x := fun o b x e => Heap.get?_push_of_some _ e
  rcases l dn _ hv with ⟨hk, _⟩ | ⟨_, r', o, ov, hc, hm, hod, ⟨v, rfl, tkd, rfl⟩ | ⟨h, _⟩⟩ | ⟨hk, _⟩
  · rw [hkD] at hk; cases hk
  · obtain rfl : r' = r := Option.some.inj (hc.symm.trans hr)
    obtain ⟨bm9, ob9, M9⟩ := bmod_of_top at_.ok.top
    have Nr : ∀ o : Obj, News c.h₀ c.L (s.heap.push o) ((124, tabO q2) :: (95, tabO q1) :: (cells ++ led)) := fun o => rot1 fun p hp => ⟨kp o _ _ (N p hp).1, (N p hp).2⟩
    have hc128 : ∀ o : Obj, _ := fun o => code128 (w := W.w) (h := s.heap.push o) (ps := q2) (Frag.In.keeps at_.ok.inK (F.push o).keep) (Nr o _ List.mem_cons_self).1 t2
    refine gen_range (P := 124) (c := 128) (F.push _) (Nr _) G (IsRange.new _ _ _ _ _ _ _) (Top.nolimit at_.ok.top) M9 rfl hcd (hc128 _).1 (hc128 _).2 ?_ hsmall hn hkind hx hxd e1 e2 e3 (.tail _ (List.mem_append_left _ hm)) hod fun ga h9 g9 tk9 ps9 tr9 F9 N9 G9 X9 => ?_
    · exact List.forall_mem_cons.mpr ⟨(show (95 : Nat) ≠ 124 by decide), fun p hp => (off p hp).2⟩
    refine args_nil ?_
    refine call_set_gen rfl F9 N9 G9 X9 hb fun S h8 g8 tk8 o8 l8 F8 N8 G8 s8 => ?_
    have lt8 : ∀ p ∈ led, p.1 < S := fun p hp => l8 p (.tail _ (.tail _ (List.mem_append_right _ hp)))
    refine q (.ref S) (.ref S) _ _ (hΦ S o8 lt8 s8) rfl ⟨at_.ok, fun p hp => .tail _ (at_.sub p hp), m, cells, F8, l, ⟨q1, ps9, t1, tr9, fun p hp => ?_, fun p hp => N8 p ?_⟩, G8⟩ rfl
    · rcases List.mem_append.mp hp with h | h
      · exact off p (List.mem_append_left _ h)
      · rcases List.mem_cons.mp h with rfl | h
        · exact ⟨Nat.ne_of_gt (l8 _ (.tail _ (.head _))), Nat.ne_of_gt (l8 _ (.head _))⟩
        · exact off p (List.mem_append_right _ h)
    · rcases List.mem_cons.mp hp with rfl | hp
      · exact .tail _ (.tail _ (.head _))
      · rcases List.mem_cons.mp hp with rfl | hp
        · exact .tail _ (.head _)
        · rcases List.mem_append.mp hp with h | h
          · exact .tail _ (.tail _ (.tail _ (List.mem_append_left _ h)))
          · rcases List.mem_cons.mp h with rfl | h
            · exact .head _
            · exact .tail _ (.tail _ (.tail _ (List.mem_append_right _ h)))
  · cases h
  · rw [hkD] at hk; cases hk
end
end Mine
set_option maxRecDepth 100000
namespace Mine
theorem set_nocell {prog : Program} {w : World} {o : Obj} {S : Int → Bool} {n : Nat} (h : o.SetObjOf (intKind prog w) S n) : ∀ u, o.data ≠ .cell u := by
  intro u e
  unfold Obj.SetObjOf at h
  obtain ⟨_, _, _, _, hd, _⟩ := h
  rw [hd] at e; cases e
theorem nd_ok {x : Str} (h : (x == ("__debug__" : Str)) = false) : (false || x == ("__debug__" : Str)) = false := by rw [h]; rfl
theorem lookA {a b y : Str} {r s : Addr} (h : r ≠ s) (e : ([(a, r), (b, s)] : List (Str × Addr)).lookup y = some r) : y = a := by
  rw [List.lookup_cons] at e
  cases q : y == a with
  | true => exact eq_of_beq q
  | false =>
    rw [q, List.lookup_cons] at e
    cases q2 : y == b with
    | true => rw [q2] at e; injection e with e; exact absurd e.symm h
    | false => rw [q2] at e; simp at e
theorem lookB {a b y : Str} {r s : Addr} (h : r ≠ s) (e : ([(a, r), (b, s)] : List (Str × Addr)).lookup y = some s) : y = b := by
  rw [List.lookup_cons] at e
  cases q : y == a with
  | true => rw [q] at e; injection e with e; exact absurd e h
  | false =>
    rw [q, List.lookup_cons] at e
    cases q2 : y == b with
    | true => exact eq_of_beq q2
    | false => rw [q2] at e; simp at e
section
variable {W : Wd} {c : Cx} {vars : Vars} {led : Led}
/-- `try: return a.intersection(b).pop() + jd  except KeyError: raise IndexError(text)` -/
theorem b_try_pop {xa xb xj : Str} {A B : Addr} {oa ob : Obj} {S T : Int → Bool} {n k : Nat} {jd : Int} {txt : Str} {kk : Nat} {p1 p2 p3 p4 p5 p6 p7 p8 p9 p10 p11 p12 p13 p14 p15 p16 : Pos} {rest : List Stmt} {N : Vars → Led → Prop}
    (ha : vars.lookup xa = some (.ref A)) (hb : vars.lookup xb = some (.ref B)) (hj : vars.lookup xj = some (.int jd)) (hda : (xa == ("__debug__" : Str)) = false) (hdb : (xb == ("__debug__" : Str)) = false) (hdj : (xj == ("__debug__" : Str)) = false)
    (ma : (A, oa) ∈ led) (mb : (B, ob) ∈ led) (hne : A ≠ B) (sa : oa.SetObjOf (intKind pw W.w) S n) (sb : ob.SetObjOf (intKind pw W.w) T k) (hn : n + 1 < scanBound) (hk : k + 1 < scanBound)
    (eK : nsIn (hd.heap_39 W.w.params) mainGlobals "KeyError" = some none) (eI : nsIn (hd.heap_39 W.w.params) mainGlobals "IndexError" = some none) (hkK : c.env.kindOf "KeyError" = some .globalImplicit) (hkI : c.env.kindOf "IndexError" = some .globalImplicit)
    (mc1 : Mc c (.Name xa p1) "intersection" p2 p4 [.Name xb p3]) (mc2 : Mc c (.Call (.Attribute (.Name xa p1) "intersection" p2) [.Name xb p3] [] p4) "pop" p5 p6 [])
    (h : ∀ added : List Int, added.Nodup → (∀ x, x ∈ added ↔ S x = true ∧ T x = true) → (added = [] ∧ c.relE "IndexError") ∨ ∃ j, added = [j] ∧ Ends c (.int (j + jd)) led) :
    Bd W c vars led (.Try [.Return (some (.BinOp (.Call (.Attribute (.Call (.Attribute (.Name xa p1) "intersection" p2) [.Name xb p3] [] p4) "pop" p5) [] [] p6) .Add (.Name xj p7) p8)) p9] [.ExceptHandler (some (.Name "KeyError" p10)) none [.Raise (some (.Call (.Name "IndexError" p11) [.Constant (.str txt) kk p12] [] p13)) none p14] p15] [] [] p16 :: rest) N := by
  intro s Q E a dn nx bad
  have hA := a.ok.deep
  obtain ⟨pl1, he1⟩ := mc1
  obtain ⟨pl2, he2⟩ := mc2
  refine wpAny_execs_cons ?_
  rw [hA]
  refine wpAny_Try_except ?_
  rw [← hA]
  refine wpAny_execs_cons (wpAny_Return_some (wpAny_BinOp (MethodCall_ (MethodCall_ (name_ok ha (nd_ok hda) a fun v hv => ?_) he1) he2)))
  obtain rfl : v = .ref A := hv
  obtain ⟨m, cells, F, l, ⟨q1, q2, u1, u2, off, NN⟩, G⟩ := id a.ex
  have inN : ∀ p ∈ led, p ∈ T2 q1 q2 (cells ++ led) := fun p hp => .tail _ (.tail _ (List.mem_append_right _ hp))
  refine meth_inter_N NN (inN _ ma) sa (by omega) ?_
  refine callWith_method1 ?_
  refine args_cons (name_ok hb (nd_ok hdb) a fun v hv => ?_)
  obtain rfl : v = .ref B := hv
  refine args_nil ?_
  refine call_inter_N F NN hne (inN _ ma) (inN _ mb) sa sb hn hk fun R h9 o9 ad nd hin l9 F9 N9 s9 => ?_
  have len9 : ad.length < scanBound := by
    rcases h ad nd hin with ⟨rfl, _⟩ | ⟨j, rfl, _⟩
    · show 0 < scanBound; decide
    · show 1 < scanBound; decide
  refine meth_pop_N N9 (.head _) s9 len9 ?_
  refine callWith_method0 ?_
  rcases h ad nd hin with ⟨rfl, hx⟩ | ⟨j, rfl, he⟩
  · refine call_set_pop_none rfl (s9.setOf (N9 _ (.head _)).1 len9) fun h8 tk8 e8 x8 => ?_
    rw [hA]
    refine catch_none (T' := "KeyError") a.ok.below F9 (fun p hp => N9 p (.tail _ hp)) x8 a.ok.bok.1 a.ok.bok.2 eK PyProof.Rows.Boot.«KeyError» (by decide) (by rw [isSubtype_type]; kernel_rfl) (by rw [isSubtype_type]; kernel_rfl) (by rw [isSubtype_type]; kernel_rfl) (fun h7 g7 T7 oe oT vs ts e1 e2 e3 e4 F7 N7 K7 X7 T7 U7 => ?_) a.ok.kind hkK (by decide)
    refine suite_none (X2 := "IndexError") PySem.F.excCall_IndexError PySem.F.excRaise_IndexError K7 F7 N7 e2 e3 X7 T7 eI PyProof.Rows.Boot.«IndexError» (by decide) ?_ rfl a.ok.kind hkI (by decide)
    refine wpAny_Constant_str ?_
    refine argQ0_mk F7 N7 fun h6 ex nt => ?_
    exact bad _ ex _ hx ⟨cells ++ led, fun p hp => List.mem_append_right _ (a.sub p hp), .inr (.inr ⟨g7, q1, q2, u1, u2, U7, nt, G⟩)⟩ rfl
  · refine call_pop_N F9 N9 l9 s9 rfl fun h8 d8 tk8 F8 N8 => ?_
    have a8 : At W c vars led { s with heap := h8, drawn := d8 } := ⟨a.ok, a.sub, m, cells, F8, l, ⟨q1, q2, u1, u2, off, N8⟩, G⟩
    refine name_ok hj (nd_ok hdj) a8 fun v hv => ?_
    obtain ⟨t, rfl⟩ := hv
    refine PyProof.Rows.add_int ?_
    exact at_dn dn (a8.toks _) he ⟨_, rfl⟩ rfl
end
def HbP (i y jd : Int) : Int := (i * 20 + y - HaC jd) % 365
def TbP (j jd : Int) : Int := (j - (TzC jd + 1)) % 260
theorem hbP_b (i y jd : Int) : 0 ≤ HbP i y jd ∧ HbP i y jd < 365 := by unfold HbP; omega
theorem tbP_b (j jd : Int) : 0 ≤ TbP j jd ∧ TbP j jd < 260 := by unfold TbP; omega
/-- what next_tzolkin_haab has read of its days -/
def Nb0 (x : Int) (k : Str) (y : Int) (l : Str) (i ti tj : Int) : Prop := 0 ≤ y ∧ y ≤ 19 ∧ 0 ≤ i ∧ i < 19 ∧ l = HN i ∧ 1 ≤ x ∧ x ≤ 13 ∧ 0 ≤ ti ∧ ti < 20 ∧ k = TN ti ∧ 1 ≤ tj ∧ tj ≤ 260 ∧ tj % 13 = x % 13 ∧ tj % 20 = (ti + 1) % 20
def NbP (x : Int) (k : Str) (y : Int) (l : Str) (jd : Int) (pv : PV) (own : Led) : Prop := own = [] ∧ ∃ i ti tj j, Nb0 x k y l i ti tj ∧ 0 ≤ j ∧ j < 18980 ∧ j % 365 = HbP i y jd ∧ j % 260 = TbP tj jd ∧ pv = .int (j + jd)
def NbE (x : Int) (k : Str) (y : Int) (l : Str) (jd : Int) (X : String) : Prop := (X = "IndexError" ∧ (y < 0 ∨ 19 < y ∨ x < 1 ∨ 13 < x ∨ ∃ i ti tj, Nb0 x k y l i ti tj ∧ (HbP i y jd - TbP tj jd) % 5 ≠ 0)) ∨ (X = "ValueError" ∧ 0 ≤ y ∧ y ≤ 19 ∧ (l ∉ haabs ∨ k ∉ tzols))
theorem f_next_both {W : Wd} (t u : Addr) (x : Int) (k : Str) (y : Int) (l : Str) (u1 u2 u3 u4 : Tok) (jd : Int) (h1 : k ∈ names) (h2 : l ∈ names) (h3 : 584283 ≤ jd) : Fn W 129 8 [.ref t, .ref u, .int jd] [(t, Tup #[.int x u1, .str k u2]), (u, Tup #[.int y u3, .str l u4])] (NbP x k y l jd) (NbE x k y l jd) := by
  refine fn_enterC (names := ["tzolkin", "haab", "jd"]) (cn := ["haab_days", "tzolkin_days"]) rfl rfl (by rintro s _ ⟨v1, _, rfl, h1, v2, _, rfl, h2, v3, _, rfl, h3, rfl⟩; exact BindsTo.of_eq rfl) ?_ (by decide) (fun n => List.forall_mem_cons.mpr ⟨⟨_, rfl⟩, List.forall_mem_cons.mpr ⟨⟨_, rfl⟩, fun _ h => nomatch h⟩⟩) (hnd := fun _ => (show (["tzolkin_days", "haab_days"] : List Str).Nodup by decide))
  intro c hcs hcl hccd hpost hrelE room hreq hlt
  have hb := haC_b jd
  have hm := hn_mem (i := HaC jd / 20) (by omega) (by omega)
  refine b_assign (kind_of hcs rfl) (x_star (f_haab_count (HaC jd % 20) (HN (HaC jd / 20)) hm.2) (by k_is) (room.mono (by decide)) (fun X h => ?_) (x_fn (f_to_haab jd (by omega)) (by k_is) (room.mono (by decide)) (fun _ h => h.elim) (a_pure (Pe.name rfl rfl) (a_nil ⟨rfl, (fun _ h => nomatch h), ?_⟩))) (by rfl))
  · rcases h with ⟨_, h⟩ | ⟨_, _, _, h⟩
    · omega
    · exact absurd hm.1 h
  rintro _ _ ⟨t1, tk, tk', rfl, rfl⟩
  refine ⟨t1, [_, _], rfl, List.mem_cons_self, ⟨_, _, rfl, ⟨_, rfl⟩, _, _, rfl, ⟨_, rfl⟩, rfl⟩, (show 2 < 100 by decide), ?_⟩
  rintro _ _ ⟨rfl, c0, c1, i0, i00, i01, ie, rfl⟩
  obtain rfl := hn_inj (by omega) (by omega) i00 i01 ie
  rw [show HaC jd / 20 * 20 + HaC jd % 20 = HaC jd by omega]
  refine b_assign (kind_of hcs rfl) (x_star (f_haab_count y l h2) (by k_is) (room.mono (by decide)) (fun X h => ?_) (x_pure (Pe.name rfl rfl) ⟨u, [_, _], rfl, List.mem_cons_of_mem _ (hreq _ (.tail _ (.head _))), ⟨_, _, rfl, ⟨_, rfl⟩, _, _, rfl, ⟨_, rfl⟩, rfl⟩, (show 2 < 100 by decide), ?_⟩) (by rfl))
  · rw [hrelE]
    rcases h with ⟨e, h | h⟩ | ⟨e, h2, h3, h⟩
    · exact Or.inl ⟨e, Or.inl h⟩
    · exact Or.inl ⟨e, Or.inr (Or.inl h)⟩
    · exact Or.inr ⟨e, h2, h3, Or.inl h⟩
  rintro _ _ ⟨rfl, d0, d1, i, i0, i1, ie2, rfl⟩
  refine b_assign_c (kind_of hcs rfl) (r := c.L + 1) (by rw [hcl]; rfl) rfl (fun y hy => by rw [hcl] at hy; exact lookB (r := c.L + 1 + 1) (Nat.succ_ne_self _) hy) (x_pure (pv := .int (HbP i y jd)) (Pe.bin (Pe.bin (Pe.name rfl rfl) (Pe.name rfl rfl) (Ar.sub _ _)) Pe.int (Ar.mod _ _ (by decide))) ⟨?_, ?_⟩)
  · exact List.forall_mem_cons.mpr ⟨.inr (by intro u e; cases e), fun p hp => .inl (Nat.ne_of_lt (Nat.lt_succ_of_lt (hlt p hp)))⟩
  refine b_assign (kind_of hcs rfl) (x_setgen (r := c.L + 1) (d := HbP i y jd) (n := 52) (by k_is) (by k_is) (kind_of hcs rfl) (kind_of hcs rfl) (kind_of hcs rfl) hccd (Nat.lt_of_le_of_lt (Nat.le_add_right _ _) room.1) (by cases c; cases hcs; dsimp only at hcl; subst hcl; with_unfolding_all rfl) (by rw [hcl]; rfl) rfl (by decide) (by rfl) (by rfl) (by rfl) (by rfl) (by rfl) (by decide) (by decide +kernel) (by rfl) (PyProof.noPylong_of_log2 (by decide +kernel)) (by decide) (by decide) (by decide) (by decide) (by intro _; cases c; cases hcs; with_unfolding_all rfl) fun S1 o1 lt1 so1 => ?_)
  have hb2 := tzC_b jd
  have hm2 := tn_mem (i := TzC jd % 20) (by omega) (by omega)
  refine b_assign (kind_of hcs rfl) (x_star (f_tz_count (TzC jd % 13 + 1) (TN (TzC jd % 20)) hm2.2) (by k_is) (room.mono (by decide)) (fun X h => ?_) (x_fn (f_to_tzolkin jd (by omega)) (by k_is) (room.mono (by decide)) (fun _ h => h.elim) (a_pure (Pe.name rfl rfl) (a_nil ⟨rfl, (fun _ h => nomatch h), ?_⟩))) (by rfl))
  · rcases h with ⟨_, h⟩ | ⟨_, _, _, h⟩
    · omega
    · exact absurd hm2.1 h
  rintro _ _ ⟨t2, tk2, tk2', rfl, rfl⟩
  refine ⟨t2, [_, _], rfl, List.mem_cons_self, ⟨_, _, rfl, ⟨_, rfl⟩, _, _, rfl, ⟨_, rfl⟩, rfl⟩, (show 2 < 100 by decide), ?_⟩
  rintro _ _ ⟨rfl, a1, a2, i2, j2, b1, b2, b3, b4, b5, b6, b7, rfl⟩
  obtain rfl := tn_inj (by omega) (by omega) b1 b2 b3
  have hdd := tz_day (i := 0) hb2.1 hb2.2 b4 b5 b6 b7
  subst hdd
  refine b_assign (kind_of hcs rfl) (x_star (f_tz_count x k h1) (by k_is) (room.mono (by decide)) (fun X h => ?_) (x_pure (Pe.name rfl rfl) ⟨t, [_, _], rfl, .tail _ (.tail _ (.tail _ (hreq _ (.head _)))), ⟨_, _, rfl, ⟨_, rfl⟩, _, _, rfl, ⟨_, rfl⟩, rfl⟩, (show 2 < 100 by decide), ?_⟩) (by rfl))
  · rw [hrelE]
    rcases h with ⟨e, h | h⟩ | ⟨e, h2, h3, h⟩
    · exact Or.inl ⟨e, Or.inr (Or.inr (Or.inl h))⟩
    · exact Or.inl ⟨e, Or.inr (Or.inr (Or.inr (Or.inl h)))⟩
    · exact Or.inr ⟨e, d0, d1, Or.inr h⟩
  rintro _ _ ⟨rfl, x0, x1, ti, tj, g0, g1, g2, g3, g4, g5, g6, rfl⟩
  have nb : Nb0 x k y l i ti tj := ⟨d0, d1, i0, i1, ie2, x0, x1, g0, g1, g2, g3, g4, g5, g6⟩
  refine b_assign_c (kind_of hcs rfl) (r := c.L + 1 + 1) (by rw [hcl]; rfl) rfl (fun y hy => by rw [hcl] at hy; exact lookA (s := c.L + 1) (Nat.succ_ne_self _) hy) (x_pure (pv := .int (TbP tj jd)) (Pe.bin (Pe.bin (Pe.name rfl rfl) (Pe.name rfl rfl) (Ar.sub _ _)) Pe.int (Ar.mod _ _ (by decide))) ⟨?_, ?_⟩)
  · exact List.forall_mem_cons.mpr ⟨.inr (by intro u e; cases e), List.forall_mem_cons.mpr ⟨.inr (set_nocell so1), List.forall_mem_cons.mpr ⟨.inr (by intro u e; cases e), fun p hp => .inl (Nat.ne_of_lt (Nat.lt_succ_of_lt (Nat.lt_succ_of_lt (hlt p hp))))⟩⟩⟩
  refine b_assign (kind_of hcs rfl) (x_setgen (r := c.L + 1 + 1) (d := TbP tj jd) (n := 73) (by k_is) (by k_is) (kind_of hcs rfl) (kind_of hcs rfl) (kind_of hcs rfl) hccd (Nat.lt_of_le_of_lt (Nat.le_add_right _ _) room.1) (by cases c; cases hcs; dsimp only at hcl; subst hcl; with_unfolding_all rfl) (by rw [hcl]; rfl) rfl (by decide) (by rfl) (by rfl) (by rfl) (by rfl) (by rfl) (by decide) (by decide +kernel) (by rfl) (PyProof.noPylong_of_log2 (by decide +kernel)) (by decide) (by decide) (by decide) (by decide) (by intro _; cases c; cases hcs; with_unfolding_all rfl) fun S2 o2 lt2 so2 => ?_)
  refine b_try_pop rfl rfl rfl (by decide) (by decide) (by decide) (.head _) (.tail _ (.tail _ (.head _))) (Nat.ne_of_gt (lt2 _ (.tail _ (.head _)))) so2 so1 (firstMet_fits _ (by decide)) (firstMet_fits _ (by decide)) (by k_is) (by k_is) (kind_of hcs rfl) (kind_of hcs rfl) (by cases c; cases hcs; exact ⟨_, rfl⟩) (by cases c; cases hcs; exact ⟨_, rfl⟩) fun added nd hin => ?_
  have hp := hbP_b i y jd
  have hq := tbP_b tj jd
  rcases both_sets hp.1 hp.2 hq.1 hq.2 nd hin (fun _ => rfl) (fun _ => rfl) rfl rfl with ⟨h5, rfl⟩ | ⟨h5, j, rfl, j0, j1, j2, j3⟩
  · exact .inl ⟨rfl, by rw [hrelE]; exact .inl ⟨rfl, .inr (.inr (.inr (.inr ⟨i, ti, tj, nb, h5⟩)))⟩⟩
  · exact .inr ⟨j, rfl, ends_of hpost (own := []) ⟨rfl, i, ti, tj, j, nb, j0, j1, j2, j3, rfl⟩ fun _ h => .tail _ (.tail _ (.tail _ (.tail _ h)))⟩
end Mine
set_option maxRecDepth 100000
namespace Mine
theorem sub_diff {X T : String} (h : isSubtype (.type X) (.type T) = pure false) : isSubtype (.type X) (.type T) = pure false := h
section
variable {W : Wd} {c : Cx} {led : Led}
/-- a handler of _law_call -/
abbrev retS (x : Str) (k : Nat) (p1 p2 : Pos) : List Stmt := [.Return (some (.Constant (.str x) k p1)) p2]
/-- `except IndexError: return a  except ValueError: return b`, an exception that came out of a call; base is the ground of the frame above -/
theorem catch_call {base G : Heap} {A : Around} {outer : List Env} {name : Str} {scope : Scope} {L a e : Addr} {cd : Value} {cl : List (Str × Addr)} {m : Str → Option Value} {news : Led} {X : String} {KF : Frag} {p : Program} {loose : List Str} {mean : ExcName → Option Value} {mg mb : Str → Option Value}
    {sa sb : Str} {ka kb : Nat} {q1 q2 q3 q4 q5 q6 q7 q8 : Pos} {Q : Flow → Shared → Prop} {E : Value → Shared → Prop} {s' : Shared}
    (hA : A.frames = some (envX name scope L a cd cl :: outer)) (F : Fr base L G m) (hsm : G.UpToSlots s'.heap) (R : RaisedN base (envX name scope L a cd cl :: outer) e (.type X) news s'.heap)
    (XB : KF.In base) (TB : Top p loose mean mg mb base) (eI : nsIn KF mainGlobals "IndexError" = some none) (eV : nsIn KF mainGlobals "ValueError" = some none)
    (hX : X = "IndexError" ∨ X = "ValueError")
    (k : ∀ (B h' : Heap) a0 tk, Heap.FlyingW B (envX name scope L a cd cl :: outer) e (.type X) a0 h' → base.StaysIn B → (∀ q ∈ news, B.get? q.1 = some q.2 ∧ base.get? q.1 = none) → s'.heap.UpToSlots h' → Q (.ret (.str (if X = "IndexError" then sa else sb) tk)) { s' with heap := h', toks := tk + 1 })
    (hk : scope.kind = .function) (hkI : (envX name scope L a cd cl).kindOf "IndexError" = some .globalImplicit) (hkV : (envX name scope L a cd cl).kindOf "ValueError" = some .globalImplicit) :
    wpAny (model pw W.w) A (noteFrame (.ref e) (envX name scope L a cd cl)) (fun _ s₂ => wpAny (model pw W.w) A (setFlight (.ref e) none) (fun _ s₃ =>
      wpAny (model pw W.w) A (handleBy (.ref e) (envX name scope L a cd cl) [.ExceptHandler (some (.Name "IndexError" q1)) none (retS sa ka q2 q3) q4, .ExceptHandler (some (.Name "ValueError" q5)) none (retS sb kb q6 q7) q8]) Q E s₃) E s₂) E s' := by
  obtain ⟨B, a0, hB, hl, hfl⟩ := R
  refine wpAny_looks_onW hA rfl hfl fun h₄ hheld₄ hsm₄ => ?_
  refine wpAny_landsW hheld₄ fun h₅ hheld hsm₅' => ?_
  have hsm₅ := hsm₄.trans hsm₅'
  have hheld' := flyingW_base hB hheld
  have F₅ := F.of_stays hheld'.1 (hsm.trans hsm₅)
  obtain ⟨ob, hob, hobc⟩ := hheld'.there
  rcases hX with rfl | rfl
  · refine wpAny_handleBy_builtin (X := "IndexError") (T := "IndexError") (b := true) PySem.F.isExc_IndexError PySem.F.notTuple_IndexError (by rw [isSubtype_type]; kernel_rfl) (nameX_B F₅ XB (topRead_of TB) eI PyProof.Rows.Boot.«IndexError» (by decide) ⟨rfl, ⟨ob, hob, hobc⟩, ?_⟩ hk hkI (by decide))
    rw [if_pos rfl]
    refine lands_againW hheld fun h₆ hfl₆ hsm₆ => ?_
    refine wpAny_execs_cons (wpAny_Return_some (wpAny_Constant_str ?_))
    exact k B h₆ a0 _ hfl₆ hB hl (hsm₅.trans hsm₆)
  · refine wpAny_handleBy_builtin (X := "ValueError") (T := "IndexError") (b := false) PySem.F.isExc_IndexError PySem.F.notTuple_IndexError (by rw [isSubtype_type]; kernel_rfl) (nameX_B F₅ XB (topRead_of TB) eI PyProof.Rows.Boot.«IndexError» (by decide) ⟨rfl, ⟨ob, hob, hobc⟩, ?_⟩ hk hkI (by decide))
    rw [if_neg (by decide)]
    refine wpAny_handleBy_builtin (X := "ValueError") (T := "ValueError") (b := true) PySem.F.isExc_ValueError PySem.F.notTuple_ValueError (by rw [isSubtype_type]; kernel_rfl) (nameX_B F₅ XB (topRead_of TB) eV PyProof.Rows.Boot.«ValueError» (by decide) ⟨rfl, ⟨ob, hob, hobc⟩, ?_⟩ hk hkV (by decide))
    rw [if_pos rfl]
    refine lands_againW hheld fun h₆ hfl₆ hsm₆ => ?_
    refine wpAny_execs_cons (wpAny_Return_some (wpAny_Constant_str ?_))
    exact k B h₆ a0 _ hfl₆ hB hl (hsm₅.trans hsm₆)

/-- what a call in _law_call's try gives -/
def LcP (post : PV → Led → Prop) (relE : String → Prop) (pv : PV) (own : Led) : Prop := post pv own ∨ (own = [] ∧ ((relE "IndexError" ∧ pv = .str "index") ∨ (relE "ValueError" ∧ pv = .str "value")))
theorem law_call_core {f : Addr} {k : Nat} {pvs : List PV} {req : Led} {post : PV → Led → Prop} {relE : String → Prop} {name qual : Str} {params : Arguments} {body : List Stmt} {scope : Scope} {dV kV doc pm cdv ct oc : Value} {an od : Option Addr} {osl : Array (Option Value)} {ka kb : Nat} {q1 q2 q3 q4 q5 q6 q7 q8 q9 : Pos} (names : List Str)
    (hbase : c.base = c.h₀) (hX : ∀ X, relE X → X = "IndexError" ∨ X = "ValueError")
    (ho : (hd.heap_39 W.w.params).lookup f = some ⟨oc, od, .func (fnOf name qual params [.Try body [.ExceptHandler (some (.Name "IndexError" q1)) none (retS "index" ka q2 q3) q4, .ExceptHandler (some (.Name "ValueError" q5)) none (retS "value" kb q6 q7) q8] [] [] q9] scope dV kV doc pm an cdv ct), osl⟩) (hcd : codeIn (hd.heap_39 W.w.params) cdv qual = true)
    (hbind : ∀ s vs, AllIs pvs vs → BindsTo s (fnOf name qual params [.Try body [.ExceptHandler (some (.Name "IndexError" q1)) none (retS "index" ka q2 q3) q4, .ExceptHandler (some (.Name "ValueError" q5)) none (retS "value" kb q6 q7) q8] [] [] q9] scope dV kV doc pm an cdv ct) ⟨vs, []⟩ (names.zip vs))
    (eI : nsIn (hd.heap_39 W.w.params) mainGlobals "IndexError" = some none) (eV : nsIn (hd.heap_39 W.w.params) mainGlobals "ValueError" = some none) (hkI : scope.names.lookup ("IndexError" : Str) = some .globalImplicit) (hkV : scope.names.lookup ("ValueError" : Str) = some .globalImplicit)
    (walk : ∀ (c' : Cx) (s : Shared) (Q : Flow → Shared → Prop) (E : Value → Shared → Prop), c'.cs = scope → c'.relE = (fun _ => False) → c'.Room k → At W c' (names.zip pvs) c'.led₀ s → (∀ p ∈ req, p ∈ c'.led₀) →
      (∀ v pv own s', post pv own → pv.Is v → At W c' (names.zip pvs) (own ++ c'.led₀) s' → s'.os = s.os → Q (.ret v) s') → (∀ X e s' led', relE X → (∀ p ∈ c'.led₀, p ∈ led') → Gone c' led' X e s' → s'.os = s.os → E (.ref e) s') → wpAny (model pw W.w) c'.A (execs body c'.env) Q E s)
    (hn : names.Nodup := by decide) (hloc : ∀ y ∈ names, scope.names.lookup y = some .local := by decide) (hcell : ∀ x ∈ scope.names, x.2 ≠ .cell := by decide)
    (hco : scope.isCoroutine = false := by rfl) (hgen : scope.isGenerator = false := by rfl) (hk : scope.kind = .function := by rfl) : FnC W c f (k + 1) pvs req (LcP post relE) (fun _ => False) := by
  intro s vs m led Q E ok room hvs F ⟨q1, q2, t1, t2, off, N⟩ G hreq hret hrex
  obtain ⟨FG, BG, st, _⟩ := groundX (env := c.env) (A := c.A) (outer := c.outer) (R := fun _ _ => True) ok.below F N rfl rfl ok.kind
  refine wpAny_call (codeAny_call_def (Nat.lt_of_le_of_lt (Nat.le_add_right _ _) room.1) ((ok.inK.keeps F.keep) _ _ ho) rfl ((Top.nolimit ok.top).keeps F.keep) (codeRec_of (ok.inK.keeps F.keep) hcd) rfl (hbind s vs hvs) hcell (fun y hy => hloc _ (List.of_mem_zip hy).1) (fun h₁ hns hk₁ => ?_) hco hgen hk)
  have F' : Fr (hideAll s.heap ((T2 q1 q2 led).map (·.1))) s.heap.objs.size h₁ (fun y => (names.zip vs).reverse.lookup y) := ⟨hns, fun b o e => hk₁ b o (of_hideAll _ e), Nat.le_of_eq (hideAll_size _ _)⟩
  have N' : News (hideAll s.heap ((T2 q1 q2 led).map (·.1))) s.heap.objs.size h₁ (T2 q1 q2 led) := fun p hp => ⟨hk₁ _ _ (N p hp).1, Nat.ne_of_lt (Heap.lt_size (N p hp).1), hideAll_none _ (List.mem_map_of_mem hp)⟩
  generalize hideAll s.heap ((T2 q1 q2 led).map (·.1)) = g at *
  generalize s.heap.objs.size = L' at *
  have gL : ∃ o, g.get? c.L = some o := let ⟨o, _, _, h, _⟩ := FG.ns; ⟨o, h⟩
  have room' : Cx.Room ⟨c.dp + 1, c.un + 3, c.gd, qual, scope, f, cdv, [], c.env :: c.outer, c.A, c.base, g, L', led, fun _ _ => True, fun _ => False, c.pre⟩ k := by
    obtain ⟨r1, r2⟩ := room
    exact ⟨by show c.dp + 1 + k < _; omega, by show c.un + 3 + 10 * k < _; omega⟩
  have ok' : Cx.Ok W ⟨c.dp + 1, c.un + 3, c.gd, qual, scope, f, cdv, [], c.env :: c.outer, c.A, c.base, g, L', led, fun _ _ => True, fun _ => False, c.pre⟩ := ⟨BG, ok.inK.keeps st, ok.top.keeps st, ok.bok, hk, rfl⟩
  refine wpAny_execs_cons (wpAny_Try_except ?_)
  refine walk ⟨c.dp + 1, c.un + 3, c.gd, qual, scope, f, cdv, [], c.env :: c.outer, c.A, c.base, g, L', led, fun _ _ => True, fun _ => False, c.pre⟩ _ _ _ rfl rfl room' ⟨ok', fun p hp => hp, _, [], F', fun x pv hx => .inl ?_, ⟨q1, q2, t1, t2, off, N'⟩, G⟩ hreq ?_ ?_
  · obtain ⟨v, hv, hi⟩ := zip_is hvs hx
    exact ⟨hloc x (List.of_mem_zip (mem_look hv)).1, v, lookup_rev hn hv, hi⟩
  · intro v pv own s' hp hv a' os'
    obtain ⟨m1, cells, F1, _, ⟨p1, p2, u1, u2, off1, N1⟩, G1⟩ := a'.ex
    have kp : c.h₀.StaysIn s'.heap := fun b o e => F1.keep b o (st b o e)
    refine hret v pv own s' (.inl hp) hv (FG.keeps F1.keep) (newsT_perm (l := cells ++ (own ++ led)) ⟨p1, p2, u1, u2, off1, fun p hp => ⟨(N1 p hp).1, fun e => ?_, ?_⟩⟩ fun p hp => List.mem_append_right _ hp) G1 os'
    · obtain ⟨o, ho⟩ := gL
      have := (N1 p hp).2.2
      rw [e] at this
      exact absurd (ho.symm.trans this) (by simp)
    · exact fresh_of_stays st (N1 p hp).2.2
  · intro X e s' led' hXX hsub hG os'
    obtain ⟨G0, m0, p1, p2, u1, u2, F0, U0, R0, G1⟩ := hG
    have habove : c.base.objs.size ≤ L' := by
      obtain ⟨o, ho⟩ := gL
      have h1 := Heap.lt_size ho
      have h2 := FG.above
      have h3 := F'.above
      rw [hbase]
      exact Nat.le_trans h2 (Nat.le_trans (Nat.le_of_lt h1) h3)
    refine catch_call (news := T2 p1 p2 led) (W := W) rfl ⟨F0.ns, fun b o q => F0.keep b o (BG.stays b o q), habove⟩ U0 (RaisedN.sub R0 (led_sub List.mem_cons_self (List.mem_cons_of_mem _ List.mem_cons_self) fun q hq => List.mem_cons_of_mem _ (List.mem_cons_of_mem _ (hsub q hq)))) ok.bok.1 ok.bok.2 eI eV (hX X hXX) (fun B h₆ a0 tk hfl hB hl hsm => ?_) hk hkI hkV
    have hb6 := flyingW_base hB hfl
    have up6 : g.UpToSlots h₆ := (Heap.UpToSlots.of_keeps F0.keep).trans (U0.trans hsm)
    have hBL : B.get? c.L = none := by
      obtain ⟨_, _, f3, _⟩ := hfl
      obtain ⟨_, _, f4⟩ := f3
      obtain ⟨_, ⟨L9, _, hf9, hn9, _⟩, _⟩ := f4
      obtain rfl : c.L = L9 := Option.some.inj hf9
      exact hn9
    refine hret _ (.str (if X = "IndexError" then "index" else "value")) [] _ (.inr ⟨rfl, ?_⟩) ⟨_, rfl⟩ ⟨up6.ns FG.ns, fun b o q => hb6.1 b o (by rw [hbase]; exact q), FG.above⟩ ⟨p1, p2, u1, u2, off, fun p hp => ⟨hfl.1 _ _ (hl p hp).1, fun e => ?_, by rw [← hbase]; exact (hl p hp).2⟩⟩ G1 os'
    · rcases hX X hXX with rfl | rfl
      · exact .inl ⟨hXX, by rw [if_pos rfl]⟩
      · exact .inr ⟨hXX, by rw [if_neg (by decide)]⟩
    · have := (hl p hp).1
      rw [e, hBL] at this; cases this
end
section
variable {W : Wd} {c : Cx} {vars : Vars} {led : Led}
/-- a call whose exceptions are told to a handler of the frame -/
theorem wp_fn {f : Str} {fa : Addr} {x : Expr} {r : List Expr} {k : Nat} {pvs : List PV} {req : Led} {post : PV → Led → Prop} {relE' : String → Prop} {p p' : Pos} {s : Shared} {Q E : Value → Shared → Prop} (C : Fn W fa k pvs req post relE') (e : nsIn (hd.heap_39 W.w.params) mainGlobals f = some (some (.ref fa)))
    (hr : c.Room k) (hno : c.relE = fun _ => False) (a : At W c vars led s) (h : Ax W c vars led (x :: r) fun ps l1 => ps = pvs ∧ l1 = led) (hreq : ∀ q ∈ req, q ∈ led)
    (hq : ∀ v pv own s', post pv own → pv.Is v → At W c vars (own ++ led) s' → s'.os = s.os → Q v s') (he' : ∀ X ex s' led', relE' X → (∀ p ∈ c.led₀, p ∈ led') → Gone c led' X ex s' → s'.os = s.os → E (.ref ex) s')
    (hf : c.env.kindOf f = some .globalImplicit := by first | rfl | exact kind_of (by assumption) rfl) (hdb : (f == ("__debug__" : Str)) = false := by decide) (hfn : ∃ o fd, (hd.heap_39 W.w.params).lookup fa = some o ∧ o.data = .func fd := by exact ⟨_, _, rfl, rfl⟩)
    (he : starEach (x :: r) c.env = (false, eval x c.env) :: starEach r c.env := by rfl) : wpAny (model pw W.w) c.A (eval (.Call (.Name f p) (x :: r) [] p') c.env) Q E s := by
  obtain ⟨m0, cells0, F0, _, _, _⟩ := a.ex
  obtain ⟨o, fd, ho, hod⟩ := hfn
  refine Call_ (nameX_K F0 a.ok.inK (topRead_of a.ok.top) e ?_ a.ok.kind hf hdb)
  have go : ∀ vs ps l1 (s1 : Shared), (ps = pvs ∧ l1 = led) → AllIs ps vs → At W c vars l1 s1 → s1.os = s.os → s1.heap.get? fa = some o ∧ wpAny (model pw W.w) c.A (call (.ref fa) vs) Q E s1 := by
    rintro vs ps l1 s1 ⟨rfl, rfl⟩ hvs a1 os1
    obtain ⟨m, cells, F, l, NT, G⟩ := a1.ex
    refine ⟨(Frag.In.keeps a1.ok.inK F.keep) _ _ ho, C c s1 vs m (cells ++ l1) Q E a1.ok hr hvs F NT G (fun p hp => List.mem_append_right _ (hreq p hp)) (fun v pv own s2 hp hv F2 NT2 G2 os2 => ?_) fun X e s2 hX hG os2 => ?_⟩
    · refine hq v pv own s2 hp hv ⟨a1.ok, fun p hm => List.mem_append_right _ (a1.sub p hm), m, cells, F2, l, newsT_perm NT2 fun p hm => ?_, G2⟩ (os2.trans os1)
      exact (by simp only [List.mem_append] at hm ⊢; rcases hm with h | h | h <;> simp [h])
    · exact he' X e s2 _ hX (fun p hm => List.mem_append_right _ (a1.sub p hm)) hG (os2.trans os1)
  exact callWith_def hod (h s (fun vs s1 => s1.heap.get? fa = some o ∧ wpAny (model pw W.w) c.A (call (.ref fa) vs) Q E s1) E p' a (fun vs ps l1 s1 hps hvs a1 os1 => go vs ps l1 s1 hps hvs a1 os1) fun X _ _ hX => by rw [hno] at hX; exact hX.elim) he
end
end Mine
set_option maxRecDepth 100000
namespace Mine
section
variable {W : Wd} {c : Cx} {vars : Vars} {led : Led} {s : Shared} {Q : Flow → Shared → Prop} {E : Value → Shared → Prop}
theorem w_skip {t : Expr} {b1 rest : List Stmt} {p : Pos} (h : Tx W c vars led t fun b l => b = false ∧ l = led) (hno : c.relE = fun _ => False) (a : At W c vars led s) (k : ∀ s', At W c vars led s' → s'.os = s.os → wpAny (model pw W.w) c.A (execs rest c.env) Q E s') :
    wpAny (model pw W.w) c.A (execs (.If t b1 [] p :: rest) c.env) Q E s := by
  refine wpAny_execs_cons (wpAny_If (h s _ _ a (fun b led' s' hb a' os' => ?_) (fun X _ _ hX => by rw [hno] at hX; exact hX.elim)))
  obtain ⟨rfl, rfl⟩ := hb
  exact wpAny_execs_nil (k s' a' os')
theorem w_take {t e : Expr} {b2 rest : List Stmt} {p p1 : Pos} (h : Tx W c vars led t fun b l => b = true ∧ l = led) (hno : c.relE = fun _ => False) (a : At W c vars led s) (k : ∀ s', At W c vars led s' → s'.os = s.os → wpAny (model pw W.w) c.A (eval e c.env) (fun v s' => Q (.ret v) s') E s') :
    wpAny (model pw W.w) c.A (execs (.If t [.Return (some e) p1] b2 p :: rest) c.env) Q E s := by
  refine wpAny_execs_cons (wpAny_If (h s _ _ a (fun b led' s' hb a' os' => ?_) (fun X _ _ hX => by rw [hno] at hX; exact hX.elim)))
  obtain ⟨rfl, rfl⟩ := hb
  exact wpAny_execs_cons (wpAny_Return_some (k s' a' os'))
end
theorem f_lc_tz {W : Wd} {c : Cx} (hbase : c.base = c.h₀) (t : Addr) (x : Int) (k : Str) (u1 u2 : Tok) (jd : Int) (h1 : k ∈ names) : FnC W c 192 8 [.str "tzolkin", .ref t, .none, .int jd] [(t, Tup #[.int x u1, .str k u2])] (LcP (NtP x k jd) (NtE x k jd)) (fun _ => False) := by
  refine law_call_core (names := ["which", "one", "two", "jd"]) hbase (fun _ h => Or.elim h (fun h => .inl h.1) fun h => .inr h.1) rfl rfl (by rintro s _ ⟨v1, _, rfl, h1, v2, _, rfl, h2, v3, _, rfl, h3, v4, _, rfl, h4, rfl⟩; exact BindsTo.of_eq rfl) (by k_is) (by k_is) rfl rfl ?_
  intro c1 s Q E hcs hno room a hreq hq he
  refine w_take (t_cmp (x_pure (Pe.name rfl rfl) (x_pure Pe.str ⟨_, cp_eq_str _ _, by decide, rfl⟩))) hno a fun s9 a9 o9 => ?_
  rw [← o9] at hq he; clear a; rename At _ _ _ _ _ => a
  exact wp_fn (f_next_tzolkin t x k u1 u2 jd h1) (by k_is) room hno a (a_pure (Pe.name rfl rfl) (a_pure (Pe.name rfl rfl) (a_nil ⟨rfl, rfl⟩))) hreq hq he
theorem f_lc_ha {W : Wd} {c : Cx} (hbase : c.base = c.h₀) (k : Str) (jd : Int) (h1 : k ∈ names) (h2 : 584283 ≤ jd → k ≠ HN (HaC jd / 20)) : FnC W c 192 4 [.str "haab", .none, .str k, .int jd] [] (LcP (NhP k jd) (NhE k jd)) (fun _ => False) := by
  refine law_call_core (names := ["which", "one", "two", "jd"]) hbase (fun _ h => Or.elim h (fun h => .inl h.1) fun h => .inr h.1) rfl rfl (by rintro s _ ⟨v1, _, rfl, h1, v2, _, rfl, h2, v3, _, rfl, h3, v4, _, rfl, h4, rfl⟩; exact BindsTo.of_eq rfl) (by k_is) (by k_is) rfl rfl ?_
  intro c1 s Q E hcs hno room a hreq hq he
  refine w_skip (t_cmp (x_pure (Pe.name rfl rfl) (x_pure Pe.str ⟨_, cp_eq_str _ _, by decide, rfl⟩))) hno a fun s0 a0 o0 => ?_
  rw [← o0] at hq he; clear o0 a; rename At _ _ _ _ _ => a
  refine w_take (t_cmp (x_pure (Pe.name rfl rfl) (x_pure Pe.str ⟨_, cp_eq_str _ _, by decide, rfl⟩))) hno a fun s9 a9 o9 => ?_
  rw [← o9] at hq he; clear a; rename At _ _ _ _ _ => a
  exact wp_fn (f_next_haab k jd h1 h2) (by k_is) room hno a (a_pure (Pe.name rfl rfl) (a_pure (Pe.name rfl rfl) (a_nil ⟨rfl, rfl⟩))) hreq hq he
theorem f_lc_day {W : Wd} {c : Cx} (hbase : c.base = c.h₀) (jd : Int) (h1 : jd < 584283) : FnC W c 192 2 [.str "day", .none, .none, .int jd] [] (LcP (fun _ _ => False) (fun X => X = "ValueError")) (fun _ => False) := by
  refine law_call_core (names := ["which", "one", "two", "jd"]) hbase (fun X h => .inr h) rfl rfl (by rintro s _ ⟨v1, _, rfl, h1, v2, _, rfl, h2, v3, _, rfl, h3, v4, _, rfl, h4, rfl⟩; exact BindsTo.of_eq rfl) (by k_is) (by k_is) rfl rfl ?_
  intro c1 s Q E hcs hno room a hreq hq he
  refine w_skip (t_cmp (x_pure (Pe.name rfl rfl) (x_pure Pe.str ⟨_, cp_eq_str _ _, by decide, rfl⟩))) hno a fun s0 a0 o0 => ?_
  rw [← o0] at hq he; clear o0 a; rename At _ _ _ _ _ => a
  refine w_skip (t_cmp (x_pure (Pe.name rfl rfl) (x_pure Pe.str ⟨_, cp_eq_str _ _, by decide, rfl⟩))) hno a fun s1 a1 o1 => ?_
  rw [← o1] at hq he; clear o1 a; rename At _ _ _ _ _ => a
  refine w_take (t_cmp (x_pure (Pe.name rfl rfl) (x_pure Pe.str ⟨_, cp_eq_str _ _, by decide, rfl⟩))) hno a fun s9 a9 o9 => ?_
  rw [← o9] at hq he; clear a; rename At _ _ _ _ _ => a
  exact wp_fn (f_from_jd jd h1) (by k_is) room hno a (a_pure (Pe.name rfl rfl) (a_nil ⟨rfl, rfl⟩)) hreq hq he
theorem f_lc_both {W : Wd} {c : Cx} (hbase : c.base = c.h₀) (t u : Addr) (x : Int) (k : Str) (y : Int) (l : Str) (u1 u2 u3 u4 : Tok) (jd : Int) (h1 : k ∈ names) (h2 : l ∈ names) (h3 : 584283 ≤ jd) : FnC W c 192 9 [.str "both", .ref t, .ref u, .int jd] [(t, Tup #[.int x u1, .str k u2]), (u, Tup #[.int y u3, .str l u4])] (LcP (NbP x k y l jd) (NbE x k y l jd)) (fun _ => False) := by
  refine law_call_core (names := ["which", "one", "two", "jd"]) hbase (fun _ h => Or.elim h (fun h => .inl h.1) fun h => .inr h.1) rfl rfl (by rintro s _ ⟨v1, _, rfl, h1, v2, _, rfl, h2, v3, _, rfl, h3, v4, _, rfl, h4, rfl⟩; exact BindsTo.of_eq rfl) (by k_is) (by k_is) rfl rfl ?_
  intro c1 s Q E hcs hno room a hreq hq he
  refine w_skip (t_cmp (x_pure (Pe.name rfl rfl) (x_pure Pe.str ⟨_, cp_eq_str _ _, by decide, rfl⟩))) hno a fun s0 a0 o0 => ?_
  rw [← o0] at hq he; clear o0 a; rename At _ _ _ _ _ => a
  refine w_skip (t_cmp (x_pure (Pe.name rfl rfl) (x_pure Pe.str ⟨_, cp_eq_str _ _, by decide, rfl⟩))) hno a fun s1 a1 o1 => ?_
  rw [← o1] at hq he; clear o1 a; rename At _ _ _ _ _ => a
  refine w_skip (t_cmp (x_pure (Pe.name rfl rfl) (x_pure Pe.str ⟨_, cp_eq_str _ _, by decide, rfl⟩))) hno a fun s2 a2 o2 => ?_
  rw [← o2] at hq he; clear o2 a; rename At _ _ _ _ _ => a
  exact wpAny_execs_cons (wpAny_Return_some (wp_fn (f_next_both t u x k y l u1 u2 u3 u4 jd h1 h2 h3) (by k_is) room hno a (a_pure (Pe.name rfl rfl) (a_pure (Pe.name rfl rfl) (a_pure (Pe.name rfl rfl) (a_nil ⟨rfl, rfl⟩)))) hreq hq he))
end Mine
set_option maxRecDepth 100000
namespace Mine
section
variable {W : Wd} {c : Cx} {vars : Vars} {led : Led} {Φ : PV → Led → Prop}
/-- what stands at I in the ledger is changed: it goes out of the ledger -/
theorem at_change {I : Addr} {o : Obj} {s s' : Shared} (a : At W c vars ((I, o) :: led) s) (hd : ∀ u, o.data ≠ .cell u) (hne : ∀ p ∈ led, p.1 ≠ I) (hsub : ∀ p ∈ c.led₀, p ∈ led)
    (hk : ∀ b x, b ≠ I → s.heap.get? b = some x → s'.heap.get? b = some x) (hg : GP c.pre s'.gens) : At W c vars led s' ∧ I ≠ c.L ∧ c.h₀.get? I = none ∧ I ≠ 95 ∧ I ≠ 124 := by
  obtain ⟨m, cells, F, l, ⟨q1, q2, t1, t2, off, N⟩, G⟩ := a.ex
  have hI := N (I, o) (.tail _ (.tail _ (List.mem_append_right _ (.head _))))
  have offI := off (I, o) (List.mem_append_right _ (.head _))
  refine ⟨⟨a.ok, hsub, m, cells.filter (fun p => p.1 != I), ⟨F.ns.at' fun x e => hk c.L x (Ne.symm hI.2.1) e, fun b x e => hk b x (fun q => by rw [q, hI.2.2] at e; cases e) (F.keep b x e), F.above⟩, fun x pv hx => ?_, ⟨q1, q2, t1, t2, fun p hp => ?_, fun p hp => ?_⟩, hg⟩, hI.2.1, hI.2.2, offI⟩
  · rcases l x pv hx with h1 | ⟨hk', r, ob, ov, hc, hm, hod, hi⟩ | h3
    · exact .inl h1
    · refine .inr (.inl ⟨hk', r, ob, ov, hc, List.mem_filter.mpr ⟨hm, ?_⟩, hod, hi⟩)
      simp only [bne_iff_ne, ne_eq]
      intro e
      have h2 := (N (r, ob) (.tail _ (.tail _ (List.mem_append_left _ hm)))).1
      rw [e, hI.1] at h2
      cases h2
      exact hd _ hod
    · exact .inr (.inr h3)
  · rcases List.mem_append.mp hp with h | h
    · exact off p (List.mem_append_left _ (List.mem_filter.mp h).1)
    · exact off p (List.mem_append_right _ (.tail _ h))
  · have go : p ∈ T2 q1 q2 (cells ++ (I, o) :: led) ∧ p.1 ≠ I := by
      rcases List.mem_cons.mp hp with rfl | hp
      · exact ⟨.head _, Ne.symm offI.1⟩
      · rcases List.mem_cons.mp hp with rfl | hp
        · exact ⟨.tail _ (.head _), Ne.symm offI.2⟩
        · rcases List.mem_append.mp hp with h | h
          · exact ⟨.tail _ (.tail _ (List.mem_append_left _ (List.mem_filter.mp h).1)), by simpa using (List.mem_filter.mp h).2⟩
          · exact ⟨.tail _ (.tail _ (List.mem_append_right _ (.tail _ h))), hne p h⟩
    exact ⟨hk _ _ go.2 (N p go.1).1, (N p go.1).2⟩
theorem at_add {I : Addr} {o : Obj} {s : Shared} (a : At W c vars led s) (hI : s.heap.get? I = some o) (hL : I ≠ c.L) (h0 : c.h₀.get? I = none) (ho : I ≠ 95 ∧ I ≠ 124) : At W c vars ((I, o) :: led) s := by
  obtain ⟨m, cells, F, l, ⟨q1, q2, t1, t2, off, N⟩, G⟩ := a.ex
  refine ⟨a.ok, fun p hp => .tail _ (a.sub p hp), m, cells, F, l, newsT_perm (l := (I, o) :: (cells ++ led)) ⟨q1, q2, t1, t2, List.forall_mem_cons.mpr ⟨ho, off⟩, fun p hp => ?_⟩ fun p hp => ?_, G⟩
  · have hp' := ((List.perm_middle (l₁ := [(95, tabO q1), (124, tabO q2)]) (l₂ := cells ++ led) (a := (I, o))).mem_iff).mp hp
    rcases List.mem_cons.mp hp' with rfl | h
    · exact ⟨hI, hL, h0⟩
    · exact N p h
  · exact (List.perm_middle.mem_iff).mp hp
theorem at_upd {I : Addr} {o o' : Obj} {s s' : Shared} (a : At W c vars ((I, o) :: led) s) (hd : ∀ u, o.data ≠ .cell u) (hne : ∀ p ∈ led, p.1 ≠ I) (hsub : ∀ p ∈ c.led₀, p ∈ led)
    (hk : ∀ b x, b ≠ I → s.heap.get? b = some x → s'.heap.get? b = some x) (hI : s'.heap.get? I = some o') (hg : GP c.pre s'.gens) : At W c vars ((I, o') :: led) s' :=
  let ⟨h1, h2, h3, h4⟩ := at_change a hd hne hsub hk hg
  at_add h1 hI h2 h3 h4
theorem at_vars {vars' : Vars} {s : Shared} (a : At W c vars led s) (h : ∀ x pv, vars'.lookup x = some pv → vars.lookup x = some pv) : At W c vars' led s :=
  let ⟨m, cells, F, l, N, G⟩ := a.ex
  ⟨a.ok, a.sub, m, cells, F, fun x pv hx => l x pv (h x pv hx), N, G⟩
theorem at_led {led' : Led} {s : Shared} (a : At W c vars led s) (h : ∀ p ∈ led', p ∈ led) (hs : ∀ p ∈ c.led₀, p ∈ led') : At W c vars led' s :=
  let ⟨m, cells, F, l, N, G⟩ := a.ex
  ⟨a.ok, hs, m, cells, F, l, newsT_perm N fun p hp => (List.mem_append.mp hp).elim (fun q => List.mem_append_left _ q) fun q => List.mem_append_right _ (h p q), G⟩
theorem at_get {s : Shared} {p : Addr × Obj} (a : At W c vars led s) (h : p ∈ led) : s.heap.get? p.1 = some p.2 ∧ p.1 ≠ c.L ∧ c.h₀.get? p.1 = none := by
  obtain ⟨m, cells, F, l, ⟨q1, q2, t1, t2, off, N⟩, G⟩ := a.ex
  exact N p (.tail _ (.tail _ (List.mem_append_right _ h)))
theorem at_gens {s : Shared} (a : At W c vars led s) : GP c.pre s.gens := let ⟨_, _, _, _, _, G⟩ := a.ex; G
/-- a list in the ledger -/
def LisO (o : Obj) (vs : List Value) : Prop := o.cls = .type "list" ∧ ∃ n, o.data = .seq vs.toArray n
theorem x_len {x : Expr} {np p : Pos} (e : nsIn (hd.heap_39 W.w.params) mainGlobals "len" = some none) (h : Wx W c vars led x fun pv l => ∃ a o vs, pv = .ref a ∧ (a, o) ∈ l ∧ LisO o vs ∧ vs.length < 1000 ∧ Φ (.int vs.length) l)
    (hf : c.env.kindOf "len" = some .globalImplicit := by first | rfl | exact kind_of (by assumption) rfl) (he : starEach [x] c.env = [(false, eval x c.env)] := by rfl) :
    Wx W c vars led (.Call (.Name "len" np) [x] [] p) Φ := by
  intro s Q E a q bad
  obtain ⟨m0, cells0, F0, _, _, _⟩ := a.ex
  refine Call_ (nameX_B F0 a.ok.inK (topRead_of a.ok.top) e PyProof.Rows.Boot.«len» (by decide) (callWith_builtin1 (args_cons (h s _ _ a (fun v pv l s1 hw hv a1 os1 => ?_) bad) he) he rfl) a.ok.kind hf (by decide))
  obtain ⟨t, o, vs, rfl, hm, ⟨hcl, n, hdt⟩, hl, hΦ⟩ := hw
  obtain rfl : v = .ref t := hv
  refine args_nil ?_
  refine Calls.call_len_list (items := vs.toArray) ⟨o, (at_get a1 hm).1, hcl, n, hdt⟩ (by rw [List.size_toArray]; omega) ?_
  rw [List.size_toArray]
  exact q (.int vs.length _) (.int vs.length) l _ hΦ ⟨_, rfl⟩ (a1.toks _) os1
/-- an item of a list of the ledger -/
theorem x_itemL {b ix : Expr} {p : Pos} (h : Wx W c vars led b fun pb l1 => Wx W c vars l1 ix fun pi l2 => ∃ t o vs i v pv, pb = .ref t ∧ (t, o) ∈ l2 ∧ LisO o vs ∧ vs.length < 1000 ∧ pi = .int i ∧ 0 ≤ i ∧ vs[i.toNat]? = some v ∧ PV.Is pv v ∧ Φ pv l2)
    (hs : ∀ t k u, subscripted ix false (.ref t) (.int k u) = operate [.ref t, .int k u] (getItem (.ref t) (.int k u)) := by intro _ _ _; with_unfolding_all rfl) : Wx W c vars led (.Subscript b ix p) Φ := by
  intro s Q E a q bad
  refine Subscript_ (h s _ _ a (fun v pv l1 s1 hw hv a1 os1 => ?_) bad)
  refine hw s1 _ _ a1 (fun v2 pv2 l2 s2 h2 hv2 a2 os2 => ?_) (fun X e s3 r1 r2 r3 => bad X e s3 r1 r2 (r3.trans os1))
  obtain ⟨t, o, vs, i, vv, pw', rfl, hm, ⟨hcl, n, hdt⟩, hl, rfl, h0, hgt, hi, hΦ⟩ := h2
  obtain rfl : v = .ref t := hv
  obtain ⟨t2, rfl⟩ := hv2
  have hL : s2.heap.IsList t vs.toArray := ⟨o, (at_get a2 hm).1, hcl, n, hdt⟩
  have hlt : i.toNat < vs.length := (List.getElem?_eq_some_iff.mp hgt).1
  exact tail_any hL.typeIs slot_list_getitem.lookup (wpAny_getItem_list hL h0 (by omega) (by simpa using hgt) (q _ _ _ s2 hΦ hi a2 (os2.trans os1))) (hs _ _ _)
/-- `x += e` of ints -/
theorem b_aug {x : Str} {i j : Int} {e : Expr} {p p' : Pos} {rest : List Stmt} {N : Vars → Led → Prop} (hx : c.env.kindOf x = some .local) (hv : vars.lookup x = some (.int i)) (he : Pe vars e (.int j)) (h : Bd W c ((x, .int (i + j)) :: vars) led rest N) :
    Bd W c vars led (.AugAssign (.Name x p') .Add e p :: rest) N := by
  intro s Q E a dn nx bad
  refine wpAny_execs_cons (wpAny_AugAssign_Name ?_)
  obtain ⟨m, cells, F, l, NT, G⟩ := a.ex
  have ld : ∀ {Q' E' : Value → Shared → Prop}, (∀ v, (PV.int i).Is v → Q' v s) → wpAny (model pw W.w) c.A (loadName c.env x) Q' E' s := by
    intro Q' E' hq
    rcases l x _ hv with ⟨hk, v, hm, hi⟩ | ⟨hk, _⟩ | ⟨hk, _⟩
    · exact wpAny_loadName_local a.ok.kind hx F.ns hm (hq v hi)
    · rw [hx] at hk; cases hk
    · rw [hx] at hk; cases hk
  refine ld fun v hi => ?_
  obtain ⟨t, rfl⟩ := hi
  refine pe_ok he a fun v2 k hv2 => ?_
  obtain ⟨t2, rfl⟩ := hv2
  refine wpAny_iadd_int ?_
  refine st_local (pv := .int (i + j)) hx ⟨_, rfl⟩ ((a.toks k).toks _) fun s2 a2 os2 => ?_
  exact h s2 Q E a2 (by rw [os2]; exact dn) (by rw [os2]; exact nx) (by rw [os2]; exact bad)
abbrev ritO (n i : Nat) : Obj := { cls := .type "range_iterator", data := .fields #[rawInt i, rawInt ((n : Int) - i), rawInt 1] }
theorem ritO_zero (n : Nat) : ritO n 0 = { cls := .type "range_iterator", data := .fields #[rawInt 0, rawInt n, rawInt 1] } := by
  show ({ cls := .type "range_iterator", data := .fields #[rawInt ((0 : Nat) : Int), rawInt ((n : Int) - ((0 : Nat) : Int)), rawInt 1] } : Obj) = _
  rw [show ((n : Int) - ((0 : Nat) : Int)) = n by omega]; rfl
theorem ritO_succ (n i : Nat) : ritO n (i + 1) = { cls := .type "range_iterator", data := .fields #[rawInt ((i : Int) + 1), rawInt ((n : Int) - i - 1), rawInt 1] } := by
  show ({ cls := .type "range_iterator", data := .fields #[rawInt ((i + 1 : Nat) : Int), rawInt ((n : Int) - ((i + 1 : Nat) : Int)), rawInt 1] } : Obj) = _
  rw [show (n : Int) - ((i + 1 : Nat) : Int) = (n : Int) - i - 1 by omega]; rfl
/-- `for x in range(e):` in a frame that raises nothing; vsf i is what is known ahead of turn i -/
theorem b_for_range {x : Str} {n : Nat} {e1 : Expr} {body rest : List Stmt} {px np p2 pos : Pos} {N : Vars → Led → Prop} (hno : c.relE = fun _ => False) (hx : c.env.kindOf x = some .local) (eR : nsIn (hd.heap_39 W.w.params) mainGlobals "range" = some none) (hkR : c.env.kindOf "range" = some .globalImplicit)
    (vsf : Nat → Vars) (P : Nat → Prop) (p0 : P 0) (h0 : ∀ y pv, (vsf 0).lookup y = some pv → vars.lookup y = some pv) (he : Pe vars e1 (.int n)) (hn : n < 1000)
    (turn : ∀ i, i < n → ∀ I o, P i → Bd W c ((x, .int i) :: vsf i) ((I, o) :: led) body fun v' l' => l' = (I, o) :: led ∧ (∀ y pv, (vsf (i + 1)).lookup y = some pv → v'.lookup y = some pv) ∧ P (i + 1))
    (done : P n → Bd W c (vsf n) led rest N) (hse : starEach [e1] c.env = [(false, eval e1 c.env)] := by rfl) (hst : (backTo p2 (starEach [] c.env)).any (·.1) = false := by rfl)
    (hfs : ∀ v, foldedSetIterable (.Call (.Name "range" np) [e1] [] p2) c.env v = pure v := by intro _; rfl) :
    Bd W c vars led (.For (.Name x px) (.Call (.Name "range" np) [e1] [] p2) body [] pos :: rest) N := by
  intro s Q E a dn nx bad
  obtain ⟨m0, cells0, F0, _, _, _⟩ := a.ex
  have triv : ∀ os EE, Bad c os EE := fun os EE X _ _ hX => by rw [hno] at hX; exact hX.elim
  refine wpAny_execs_cons (wpAny_For (Call_ (nameX_B F0 a.ok.inK (topRead_of a.ok.top) eR PyProof.Rows.Boot.«range» (by decide) (PyProof.Rows.callWith_type1 (args_cons (pe_ok he a fun v k hv => ?_) hse) hse hst) a.ok.kind hkR (by decide))) hfs)
  obtain ⟨t, rfl⟩ := hv
  refine args_nil (call_range_1 ?_)
  have hrs : Builtin.Range.rangeSize 0 (n : Int) 1 = n := by rw [rangeSize_one]; split <;> omega
  refine wpAny_pyIter_range (IsRange.new _ _ _ _ _ _ _) (small_one (by decide) (by decide) (by omega) (by omega)) ?_
  rw [hrs]
  have a1 := at_vars (at_push (at_push (a.toks k) (o := { cls := .type "range", data := .fields #[.int 0 k, .int n t, .int 1 (k + 1)] }) rfl) (o := { cls := .type "range_iterator", data := .fields #[rawInt 0, rawInt n, rawInt 1] }) rfl) h0
  generalize hI9 : (s.heap.push { cls := .type "range", data := .fields #[.int 0 k, .int n t, .int 1 (k + 1)] }).objs.size = I at a1 ⊢
  have hIlt : s.heap.objs.size < I := by rw [← hI9, Heap.size_push]; exact Nat.lt_succ_self _
  have hne : ∀ p ∈ led, p.1 ≠ I := fun p hp => Nat.ne_of_lt (Nat.lt_trans (Heap.lt_size (at_get a hp).1) hIlt)
  have a2 := at_led (led' := (I, ritO n 0) :: led) a1 (fun p hp => by
    rcases List.mem_cons.mp hp with rfl | hp
    · rw [ritO_zero]; exact .head _
    · exact .tail _ (.tail _ hp)) (fun p hp => .tail _ (a.sub p hp))
  refine codeAny_forLoop (I := fun kk s' => ∃ i : Nat, kk = n - i ∧ i ≤ n ∧ P i ∧ At W c (vsf i) ((I, ritO n i) :: led) s' ∧ s'.os = s.os) (fun kk s' hi => ?_) n ⟨0, rfl, Nat.zero_le _, p0, a2.toks _, rfl⟩
  obtain ⟨i, rfl, hin, hPi, ai, osi⟩ := hi
  have hit : IsRangeIter s'.heap I (i : Int) ((n : Int) - i) 1 := (at_get ai (.head _)).1
  by_cases hlt : i < n
  · refine wpAny_pyNext_range_item hit (by omega) fun h' hit' hs' => ?_
    have a3 : At W c (vsf i) ((I, ritO n (i + 1)) :: led) { s' with heap := h', toks := s'.toks + 1 } := at_upd ai (by intro u e; cases e) hne a.sub (fun b y hb e => (hs'.2 b hb).trans e) (by
      have h9 : h'.get? I = _ := hit'
      rw [ritO_succ]
      exact h9) (show GP c.pre s'.gens from at_gens ai)
    refine assign_Name (st_local (pv := .int i) hx ⟨_, rfl⟩ a3 fun s2 a4 os4 => ?_)
    refine turn i hlt I _ hPi s2 _ _ a4 ?_ (fun v' l' s3 hN a5 os5 => ?_) (triv _ _)
    · rw [show s2.os = s.os from os4.trans osi]
      exact dn
    · obtain ⟨rfl, hv5, hP5⟩ := hN
      exact ⟨n - (i + 1), by omega, i + 1, rfl, hlt, hP5, at_vars a5 hv5, os5.trans (os4.trans osi)⟩
  · obtain rfl : i = n := by omega
    refine wpAny_pyNext_range_end rfl hit (by omega) fun h' hx' => ?_
    refine wpAny_execs_nil ?_
    have a3 : At W c (vsf i) led { s' with heap := h' } := (at_change (s' := { s' with heap := h' }) ai (by intro u e; cases e) hne a.sub (fun b y hb e => hx' b y hb e) (show GP c.pre s'.gens from at_gens ai)).1
    exact done hPi _ Q E a3 (by rw [show s'.os = s.os from osi]; exact dn) (by rw [show s'.os = s.os from osi]; exact nx) (triv _ _)
end
end Mine
set_option maxRecDepth 100000
namespace Mine
theorem intsAre_get : ∀ {vs : List Value} {xs : List Int}, IntsAre vs xs → ∀ k, k < vs.length → ∃ t, vs[k]? = some (.int (xs.getD k 0) t) := by
  intro vs xs hh
  induction hh with
  | nil => intro k hk; simp at hk
  | cons n u h ih =>
    intro k hk
    cases k with
    | zero => exact ⟨u, rfl⟩
    | succ k => obtain ⟨u', e⟩ := ih k (by simpa using hk); exact ⟨u', by simpa using e⟩
theorem intsAre_len : ∀ {vs : List Value} {xs : List Int}, IntsAre vs xs → vs.length = xs.length := by
  intro vs xs hh
  induction hh with
  | nil => rfl
  | cons n u h ih => rw [List.length_cons, List.length_cons, ih]
theorem vs_turn {a b : Str} {x yv z : PV} {rest : Vars} (hb : rest.lookup b = none) (hab : (b == a) = false) : ∀ y pv, List.lookup y ((a, x) :: rest) = some pv → List.lookup y ((a, x) :: (b, yv) :: (a, z) :: rest) = some pv := by
  intro y pv h
  rw [List.lookup_cons] at h ⊢
  cases q : y == a with
  | true => rw [q] at h; exact h
  | false =>
    rw [q] at h
    rw [List.lookup_cons, List.lookup_cons, q]
    cases q2 : y == b with
    | true => rw [eq_of_beq q2, hb] at h; cases h
    | false => exact h
theorem f_law_cell {W : Wd} (sc : Addr) (oS : Obj) (vs : List Value) (xs : List Int) (k : Nat) (h1 : LisO oS vs) (h2 : IntsAre vs xs) (h3 : vs.length < 1000) : Fn W 157 1 [.ref sc, .int k] [(sc, oS)] (IntP (xs.getD k 0)) (fun _ => False) := by
  refine fn_enter (names := ["script", "k"]) rfl rfl (by rintro s _ ⟨v1, _, rfl, h1, v2, _, rfl, h2, rfl⟩; exact BindsTo.of_eq rfl) ?_
  intro c hcs hpost hrelE room hreq
  refine b_return (x_ifexp (t_cmp (x_pure (Pe.name rfl rfl) (x_len (by k_is) (x_pure (Pe.name rfl rfl) ⟨sc, oS, vs, rfl, hreq _ (.head _), h1, h3, _, cp_lt _ _, fun ht => ?_, fun hf => ?_⟩)))))
  · have hlt : k < vs.length := by have := of_decide_eq_true ht; omega
    obtain ⟨t, ht⟩ := intsAre_get h2 k hlt
    exact x_itemL (x_pure (Pe.name rfl rfl) (x_pure (Pe.name rfl rfl) ⟨sc, oS, vs, k, _, .int (xs.getD k 0), rfl, hreq _ (.head _), h1, h3, rfl, by omega, by simpa using ht, ⟨_, rfl⟩, ends_of hpost ⟨rfl, rfl⟩ fun _ h => h⟩))
  · have hge : xs.length ≤ k := by have := of_decide_eq_false hf; rw [← intsAre_len h2]; omega
    exact x_pure Pe.int (ends_of hpost ⟨by rw [List.getD_eq_getElem?_getD, List.getElem?_eq_none hge]; rfl, rfl⟩ fun _ h => h)
def LbP (p c w g : Int) (pv : PV) (own : Led) : Prop := own = [] ∧ ((∃ i : Nat, i < 52 ∧ (c + ((w - p) % 365 + 365 * i)) % 260 = g % 260 ∧ pv = .int ((w - p) % 365 + 365 * i)) ∨ (pv = .none ∧ ∀ i : Nat, i < 52 → (c + ((w - p) % 365 + 365 * i)) % 260 ≠ g % 260))
theorem f_law_both {W : Wd} (p q w g : Int)  : Fn W 185 1 [.int p, .int q, .int w, .int g] [] (LbP p q w g) (fun _ => False) := by
  refine fn_enter (names := ["place", "count", "where", "goal"]) rfl rfl (by rintro s _ ⟨v1, _, rfl, h1, v2, _, rfl, h2, v3, _, rfl, h3, v4, _, rfl, h4, rfl⟩; exact BindsTo.of_eq rfl) ?_
  intro c hcs hpost hrelE room hreq
  refine b_assign (kind_of hcs rfl) (x_pure (Pe.bin (Pe.bin (Pe.name rfl rfl) (Pe.name rfl rfl) (Ar.sub _ _)) Pe.int (Ar.mod _ _ (by decide))) ?_)
  refine b_for_range (n := 52) hrelE (kind_of hcs rfl) (by k_is) (kind_of hcs rfl) (fun i => [("k", .int ((w - p) % 365 + 365 * (i : Nat))), ("place", .int p), ("count", .int q), ("where", .int w), ("goal", .int g)]) (P := fun i => ∀ j : Nat, j < i → (q + ((w - p) % 365 + 365 * j)) % 260 ≠ g % 260) (p0 := fun _ h => nomatch h) (h0 := fun y pv hy => by rw [show (w - p) % 365 + 365 * ((0 : Nat) : Int) = (w - p) % 365 by omega] at hy; exact hy) Pe.int (by decide) (fun i hi I o hP => ?_) (fun hP => ?_)
  · refine b_if (t_cmp (x_pure (Pe.bin (Pe.bin (Pe.name rfl rfl) (Pe.name rfl rfl) (Ar.add _ _)) Pe.int (Ar.mod _ _ (by decide))) (x_pure (Pe.bin (Pe.name rfl rfl) Pe.int (Ar.mod _ _ (by decide))) ⟨_, cp_eq _ _, fun ht => ?_, fun hf => b_nil ?_⟩)))
    · exact b_return (x_pure (Pe.name rfl rfl) (ends_of hpost (own := []) ⟨rfl, .inl ⟨i, hi, by simpa using ht, rfl⟩⟩ fun _ h => .tail _ h))
    · refine b_aug (kind_of hcs rfl) rfl Pe.int (b_nil ⟨rfl, ?_, ?_⟩)
      · rw [show (w - p) % 365 + 365 * ((i : Nat) : Int) + 365 = (w - p) % 365 + 365 * (((i + 1 : Nat)) : Int) by omega]
        exact vs_turn (by rfl) (by decide)
      · intro j hj
        rcases Nat.lt_succ_iff_lt_or_eq.mp hj with hj | rfl
        · exact hP j hj
        · simpa using hf
  · exact b_return (x_pure Pe.none (ends_of hpost (own := []) ⟨rfl, .inr ⟨rfl, hP⟩⟩ fun _ h => h))
section
variable {W : Wd} {c : Cx} {vars : Vars} {led : Led} {Φ : PV → Led → Prop}
/-- two tuples of the ledger put together -/
theorem x_cat {a b : Expr} {p : Pos} (h : Wx W c vars led a fun pa l1 => Wx W c vars l1 b fun pb l2 => ∃ t u vs ws, pa = .ref t ∧ pb = .ref u ∧ (t, Tup vs.toArray) ∈ l2 ∧ (u, Tup ws.toArray) ∈ l2 ∧ vs ≠ [] ∧ ws ≠ [] ∧ vs.length + ws.length < 100 ∧ ∀ r, Φ (.ref r) ((r, Tup (vs ++ ws).toArray) :: l2)) : Wx W c vars led (.BinOp a .Add b p) Φ := by
  intro s Q E at_ q bad
  refine wpAny_BinOp (h s _ _ at_ (fun v pv led' s' hw hv at' os' => ?_) bad)
  refine hw s' _ _ at' (fun v2 pv2 led2 s2 h2 hv2 at2 os2 => ?_) (fun X e s3 r1 r2 r3 => bad X e s3 r1 r2 (r3.trans os'))
  obtain ⟨t, u, vs, ws, rfl, rfl, hm, hn, n1, n2, hl, hΦ⟩ := h2
  obtain rfl : v = .ref t := hv
  obtain rfl : v2 = .ref u := hv2
  obtain ⟨m, cells, F, l, ⟨q1, q2, u1, u2, off, N⟩, G⟩ := at2.ex
  have := sizeLine_big
  exact add_tuples F N ⟨_, (at_get at2 hm).1, rfl, _, rfl⟩ ⟨_, (at_get at2 hn).1, rfl, _, rfl⟩ (fun h => absurd h n1) (fun _ h => absurd h n2) (fun _ _ h' F' N' => q (.ref s2.heap.objs.size) (.ref s2.heap.objs.size) _ { s2 with heap := h' } (hΦ _) rfl ⟨at2.ok, fun p hp => .tail _ (at2.sub p hp), m, cells, F', l, newsT_perm (l := (s2.heap.objs.size, Tup (vs ++ ws).toArray) :: (cells ++ led2)) ⟨q1, q2, u1, u2, List.forall_mem_cons.mpr ⟨⟨Nat.ne_of_gt (Heap.lt_size (N _ (.head _)).1), Nat.ne_of_gt (Heap.lt_size (N _ (.tail _ (.head _))).1)⟩, off⟩, fun p hp => N' p (by
    have hp' := ((List.perm_middle (l₁ := [(95, tabO q1), (124, tabO q2)]) (l₂ := cells ++ led2) (a := (s2.heap.objs.size, Tup (vs ++ ws).toArray))).mem_iff).mp hp
    rcases List.mem_cons.mp hp' with rfl | h
    · exact .head _
    · exact .tail _ h)⟩ fun p hp => (List.perm_middle.mem_iff).mp hp, G⟩ (os2.trans os')) (by omega)
/-- how a method call with a starred argument reads -/
def Ms (c : Cx) (k : Const) (kk : Nat) (p1 p2 p3 p4 : Pos) (name : Str) (x : Expr) : Prop := eval (.Call (.Attribute (.Constant k kk p1) name p2) [.Starred x p3] [] p4) c.env = (do
      let ov ← eval (.Constant k kk p1) c.env
      standAt p2.atName
      let (f, first) ← holding [ov] (do pure (← getAttr ov name true, ([] : List Value)))
      let cp ← (pure p4 : Sem Pos)
      callWith cp f first (backTo p4 (starEach [.Starred x p3] c.env)) [])
/-- `'{0} {1} {2} {3}'.format(*x)` -/
theorem x_fmt4 {x : Expr} {kk : Nat} {p1 p2 p3 p4 : Pos} (mc : Ms c (.str "{0} {1} {2} {3}") kk p1 p2 p3 p4 "format" x)
    (h : ∀ q tk, Wx W c vars ((q, boundFmt (PySem.Str.ofString "{0} {1} {2} {3}") tk) :: led) x fun pv l => (q, boundFmt (PySem.Str.ofString "{0} {1} {2} {3}") tk) ∈ l ∧ ∃ t a b k l4 u1 u2 u3 u4, pv = .ref t ∧ (t, Tup #[.int a u1, .str k u2, .int b u3, .str l4 u4]) ∈ l ∧ 0 ≤ a ∧ a < 100 ∧ 0 ≤ b ∧ b < 100 ∧ k.length ≤ 100 ∧ l4.length ≤ 100 ∧
      Φ (.str (((PySem.Str.ofString (toString a) ++ PySem.Str.ofString " ") ++ k ++ PySem.Str.ofString " ") ++ PySem.Str.ofString (toString b) ++ PySem.Str.ofString " " ++ l4)) l)
    (he : starEach [.Starred x p3] c.env = [(true, eval x c.env)] := by rfl) : Wx W c vars led (.Call (.Attribute (.Constant (.str "{0} {1} {2} {3}") kk p1) "format" p2) [.Starred x p3] [] p4) Φ := by
  intro s Q E a q bad
  rw [show eval (.Call (.Attribute (.Constant (.str "{0} {1} {2} {3}") kk p1) "format" p2) [.Starred x p3] [] p4) c.env = _ from mc]
  refine wpAny_bind (wpAny_Constant_str ?_)
  refine wpAny_bind (wpAny_standAt (wpAny_bind (wpAny_holding ?_)))
  obtain ⟨hp, gs, dd, tk, os⟩ := s
  refine wpAny_bind (fmt_attr (wpAny_pure ?_))
  refine wpAny_bind (wpAny_pure ?_)
  have a0 := at_push (a.toks (tk + 1 + 1)) (o := boundFmt (PySem.Str.ofString "{0} {1} {2} {3}") tk) rfl
  rw [he]
  refine ks_call (P := fun h => h.get? hp.objs.size = some (boundFmt (PySem.Str.ofString "{0} {1} {2} {3}") tk)) rfl (fun hh hx => ⟨_, .inr (.inl rfl), fun A9 Q9 E9 s9 kk9 hq9 => ?_⟩) (ks_lone (h hp.objs.size tk _ _ _ a0 (fun v pv l s1 hw hv a1 os1 => ?_) bad))
  · refine wpAny_bind (wpAny_load (kk9 _ _ hx) ?_)
    exact wpAny_pure hq9
  obtain ⟨hq0, t, x1, x2, k, l4, u1, u2, u3, u4, rfl, hm, ha, ha', hb, hb', hk, hl, hΦ⟩ := hw
  obtain rfl : v = .ref t := hv
  obtain ⟨m, cells, F, lo, ⟨q1, q2, t1, t2, off, N⟩, G⟩ := a1.ex
  refine star_seq F N (.tail _ (.tail _ (List.mem_append_right _ hm))) rfl rfl (.inr rfl) (ws := [.int x1 u1, .str k u2, .int x2 u3, .str l4 u4]) rfl ?_ fun h' F' N' => ⟨(N' _ (.tail _ (.tail _ (List.mem_append_right _ hq0)))).1, ?_⟩
  · have := sizeLine_big; show 4 ≤ sizeLine; omega
  · refine call_bf (N' _ (.tail _ (.tail _ (List.mem_append_right _ hq0)))).1 ha ha' hb hb' hk hl fun t' n => ?_
    have a2 : At W c vars l { s1 with heap := h' } := ⟨a1.ok, a1.sub, m, cells, F', lo, ⟨q1, q2, t1, t2, off, N'⟩, G⟩
    exact q (.str _ t') _ l _ hΦ ⟨_, rfl⟩ (a2.toks n) os1
end
theorem f_lc_str {W : Wd} (a b d e g : Int) (h1 : 0 < J a b d e g) : Fn W 79 3 [.int a, .int b, .int d, .int e, .int g] [] (fun pv own => pv = .str (((PySem.Str.ofString (toString (TzC (J a b d e g) % 13 + 1)) ++ PySem.Str.ofString " ") ++ TN (TzC (J a b d e g) % 20) ++ PySem.Str.ofString " ") ++ PySem.Str.ofString (toString (HaC (J a b d e g) % 20)) ++ PySem.Str.ofString " " ++ HN (HaC (J a b d e g) / 20)) ∧ own = []) (fun _ => False) := by
  refine fn_enter (names := ["baktun", "katun", "tun", "uinal", "kin"]) rfl rfl (by rintro s _ ⟨v1, _, rfl, h1, v2, _, rfl, h2, v3, _, rfl, h3, v4, _, rfl, h4, v5, _, rfl, h5, rfl⟩; exact BindsTo.of_eq rfl) ?_
  intro c hcs hpost hrelE room hreq
  refine b_assign (kind_of hcs rfl) (x_fn (f_to_jd a b d e g) (by k_is) (room.mono (by decide)) (fun _ h => h.elim) (a_pure (Pe.name rfl rfl) (a_pure (Pe.name rfl rfl) (a_pure (Pe.name rfl rfl) (a_pure (Pe.name rfl rfl) (a_pure (Pe.name rfl rfl) (a_nil ⟨rfl, (fun _ h => nomatch h), ?_⟩)))))))
  rintro _ _ ⟨rfl, rfl⟩
  have hb := haC_b (J a b d e g)
  have hm := hn_mem (i := HaC (J a b d e g) / 20) (by omega) (by omega)
  have hb2 := tzC_b (J a b d e g)
  have hm2 := tn_mem (i := TzC (J a b d e g) % 20) (by omega) (by omega)
  refine b_assign (kind_of hcs rfl) (x_cat (x_fn (f_to_tzolkin (J a b d e g) h1) (by k_is) room (fun _ h => h.elim) (a_pure (Pe.name rfl rfl) (a_nil ⟨rfl, (fun _ h => nomatch h), ?_⟩))))
  rintro _ _ ⟨t1, tk1, tk1', rfl, rfl⟩
  refine (x_fn (f_to_haab (J a b d e g) h1) (by k_is) room (fun _ h => h.elim) (a_pure (Pe.name rfl rfl) (a_nil ⟨rfl, (fun _ h => nomatch h), ?_⟩)))
  rintro _ _ ⟨t2, tk2, tk2', rfl, rfl⟩
  refine ⟨t1, t2, [_, _], [_, _], rfl, rfl, .tail _ (.head _), .head _, List.cons_ne_nil _ _, List.cons_ne_nil _ _, (show 4 < 100 by decide), fun r => ?_⟩
  refine b_return (x_fmt4 (by cases c; cases hcs; rfl) fun q tk => x_pure (Pe.name rfl rfl) ⟨.head _, r, _, _, _, _, _, _, _, _, rfl, .tail _ (.head _), by omega, by omega, by omega, by omega, (names_len _ hm2.2).2, (names_len _ hm.2).2, ends_of hpost (own := []) ⟨rfl, rfl⟩ fun _ h => .tail _ (.tail _ (.tail _ (.tail _ h)))⟩)
end Mine
set_option maxRecDepth 100000
namespace Mine
section
variable {M : Model} {A : Around} {R : GenEnd} {Y : Protocol} {n : Nat} {s₀ : Shared} {c : Code} {fs : List Frame} {s : Shared} {env : Env}
  {K : Flow → Sem Fin} {H : Value → Sem Fin} {gd : Bool → Bool} {lv : List Value → List Value}
theorem execs_append_wrap (a b : List Stmt) {K : Flow → Sem Fin} : (execs (a ++ b) env).wrap K H gd lv = (execs a env).wrap (fun f => match f with | .next => (execs b env).wrap K H gd lv | f => K f) H gd lv := by
  induction a with
  | nil => rfl
  | cons st rest ih =>
    rw [List.cons_append, execs_cons_wrap, execs_cons_wrap]
    refine Sem.wrap_congr _ _ _ (fun f => ?_) fun _ => rfl
    cases f <;> first | rfl | exact ih
theorem seg_pre {a b : List Stmt} (h : wpAny M (A.over c fs) (execs a env) (fun f s' => f = .next ∧ Seg M A R Y n s₀ c ((execs b env).wrap K H gd lv) fs s') (fun _ _ => False) s) :
    Seg M A R Y n s₀ c ((execs (a ++ b) env).wrap K H gd lv) fs s := by
  rw [execs_append_wrap]
  refine seg_wrap (wpAny_mono h (fun f s' hf => ?_) fun _ _ hf => hf.elim)
  obtain ⟨rfl, hf⟩ := hf
  exact hf
theorem seg_For {target iter : Expr} {body orelse : List Stmt} {pos : Pos} (h : wpAny M (A.over c fs) (eval iter env) (fun x s₁ => wpAny M (A.over c fs) (pyIter x) (fun it s₂ => ∀ p, Seg M A R Y n s₀ (.forLoop target it body orelse env) (M.den (.forLoop target it body orelse env))
      (.ret (fun r => ((match r with | .ok f => (.pure f : Sem Flow) | .error e => .raise e).onRaise fun (x : Value) => do
        if (← field x 1) == Value.none then unsupported "frame.own-activation:exception-without-traceback"
        setFlight x env.frame).wrap K H gd lv) none (gd false) (lv []) c p [] :: fs) s₂) (fun _ _ => False) s₁) (fun _ _ => False) s)
    (hs : ∀ x, foldedSetIterable iter env x = pure x) : Seg M A R Y n s₀ c ((exec (.For target iter body orelse pos) env).wrap K H gd lv) fs s := by
  rw [exec_For]
  refine seg_at ?_
  show Seg M A R Y n s₀ c ((eval iter env >>= fun x => (foldedSetIterable iter env x >>= fun x => (standAt iter.pos >>= fun _ => (holding [x] (pyIter x) >>= fun it => runOwn (.forLoop target it body orelse env) env)))).wrap K H gd lv) fs s
  rw [Sem.bind_eq_wrap', Sem.wrap_wrap]
  refine seg_wrap (wpAny_mono h (fun x s₁ h₁ => ?_) fun _ _ hf => hf.elim)
  rw [hs x]
  refine seg_at ?_
  show Seg M A R Y n s₀ c ((holding [x] (pyIter x) >>= fun it => runOwn (.forLoop target it body orelse env) env).wrap K H gd lv) fs s₁
  rw [Sem.bind_eq_wrap', Sem.wrap_wrap]
  refine seg_wrap (wpAny_holding (wpAny_mono h₁ (fun it s₂ h₂ => ?_) fun _ _ hf => hf.elim))
  exact seg_call h₂
end
section
variable {prog : Program} {w : World} {A : Around} {R : GenEnd} {Y : Protocol} {n : Nat} {s₀ : Shared} {fs : List Frame} {s : Shared} {env : Env}
abbrev hNote (env : Env) (e : Value) : Sem Fin := (do noteFrame e env; theTreesLotGoes e : Sem Unit).wrap (fun _ => .raise e) .raise id id
abbrev kLoop (target : Expr) (it : Value) (body orelse : List Stmt) (env : Env) (f : Flow) : Sem Fin := match f with
  | .next | .cont => .pure (.again (.forLoop target it body orelse env))
  | .brk => .pure (.done .next)
  | .ret v => .pure (.done (.ret v))
theorem seg_forLoop {target : Expr} {it : Value} {body orelse : List Stmt}
    (h : wpAny (model prog w) (A.over (.forLoop target it body orelse env) fs) (pyNext it) (fun r s₁ => ∃ v, r = some v ∧ wpAny (model prog w) (A.over (.forLoop target it body orelse env) fs) (assign target env v) (fun _ s₂ =>
        Seg (model prog w) A R Y n s₀ (.forLoop target it body orelse env) ((execs body env).wrap (kLoop target it body orelse env) (hNote env) id id) fs s₂) (fun _ _ => False) s₁) (fun _ _ => False) s)
    (ht : ∀ v, letOwnedTupleGo target it v = pure () := by intro _; rfl) :
    Seg (model prog w) A R Y n s₀ (.forLoop target it body orelse env) ((model prog w).den (.forLoop target it body orelse env)) fs s := by
  show Seg _ A R Y n s₀ _ ((forTurn target it body orelse env).onRaise (fun x => do noteFrame x env; theTreesLotGoes x)) fs s
  unfold forTurn
  rw [Sem.onRaise_eq_wrap]
  refine seg_at ?_
  show Seg _ A R Y n s₀ _ ((((pyNext it).onRaise (fun _ => standAt { target.pos with line := 0 })) >>= _).wrap _ _ id id) fs s
  rw [Sem.bind_eq_wrap', Sem.wrap_wrap]
  refine seg_wrap (wpAny_onRaise (wpAny_mono h (fun r s₁ h₁ => ?_) fun _ _ hf => hf.elim))
  obtain ⟨v, rfl, h₁⟩ := h₁
  show Seg _ A R Y n s₀ _ ((letOwnedTupleGo target it v >>= fun _ => (assign target env v >>= fun _ => _)).wrap _ _ id id) fs s₁
  rw [ht v]
  show Seg _ A R Y n s₀ _ ((assign target env v >>= fun _ => (execs body env >>= fun _ => _)).wrap _ _ id id) fs s₁
  rw [Sem.bind_eq_wrap', Sem.wrap_wrap]
  refine seg_wrap (wpAny_mono h₁ (fun _ s₂ h₂ => ?_) fun _ _ hf => hf.elim)
  show Seg _ A R Y n s₀ _ ((execs body env >>= fun _ => _).wrap _ _ id id) fs s₂
  rw [Sem.bind_eq_wrap', Sem.wrap_wrap]
  rw [Sem.wrap_congr (execs body env) _ _ (K' := kLoop target it body orelse env) (H' := hNote env) (fun f => by cases f <;> rfl)
        (fun e => by first | exact Sem.bind_eq_wrap _ _ | (show (do noteFrame e env; theTreesLotGoes e : Sem Unit).bind (fun _ => .raise e) = _; rw [Sem.bind_eq_wrap]))]
  exact h₂
end
end Mine
set_option maxRecDepth 100000
namespace Mine
/-- the objects below n -/
def cutH (h : Heap) (n : Nat) : Heap := { h with objs := h.objs.extract 0 n }
theorem cutH_get {h : Heap} {n b : Nat} (hb : b < n) : (cutH h n).get? b = h.get? b := by
  unfold cutH Heap.get?
  rw [show (h.objs.extract 0 n)[b]? = h.objs[b]? by simp [Array.getElem?_extract]; omega]
theorem cutH_none {h : Heap} {n b : Nat} (hb : n ≤ b) : (cutH h n).get? b = none := by
  unfold cutH Heap.get?
  rw [show (h.objs.extract 0 n)[b]? = none by simp [Array.getElem?_extract]; omega]
theorem cutH_size {h : Heap} {n : Nat} : (cutH h n).objs.size ≤ n := by
  unfold cutH
  simp [Array.size_extract]; omega
abbrev gh (h : Heap) (Lg : Addr) : Heap := hideAll (cutH h Lg) [95, 124]
theorem gh_get {h : Heap} {Lg b : Addr} {o : Obj} (e : h.get? b = some o) (hb : b < Lg) (h1 : b ≠ 95) (h2 : b ≠ 124) : (gh h Lg).get? b = some o :=
  hideAll_get _ ((cutH_get hb).trans e) (by simp only [List.mem_cons, List.not_mem_nil, or_false, not_or]; exact ⟨h1, h2⟩)
theorem gh_of {h : Heap} {Lg b : Addr} {o : Obj} (e : (gh h Lg).get? b = some o) : h.get? b = some o ∧ b < Lg := by
  have e1 := of_hideAll _ e
  have hb : b < Lg := Nat.lt_of_not_le fun hc => by rw [cutH_none hc] at e1; cases e1
  exact ⟨(cutH_get hb).symm.trans e1, hb⟩
theorem gh_none {h : Heap} {Lg b : Addr} (hb : Lg ≤ b) : (gh h Lg).get? b = none := by
  cases e : (gh h Lg).get? b with
  | none => rfl
  | some o => exact absurd (gh_of e).2 (Nat.not_lt.mpr hb)
theorem gh_size {h : Heap} {Lg : Addr} : (gh h Lg).objs.size ≤ Lg := by rw [hideAll_size]; exact cutH_size
/-- the frame of the generator, as it goes on in state s -/
def gcx (c : Cx) (g : Heap) (Lg : Addr) (qual : Str) (scope : Scope) (f : Addr) (cd : Value) (X : Led) (pre : List GenState) : Cx :=
  ⟨c.dp + 1, c.un + 4, c.gd, qual, scope, f, cd, [], c.env :: c.outer, { c.A with units := c.un + 1 }, c.base, g, Lg, X, fun _ _ => False, fun _ => False, pre⟩
section
variable {W : Wd} {c : Cx} {vars gvars : Vars} {led X : Led} {s s' : Shared} {Lg f : Addr} {m : Str → Option Value} {qual : Str} {scope : Scope} {cd : Value}
theorem gen_at (a : At W c vars led s) (hL : c.L < Lg) (h124 : 124 < Lg) (hns : s.heap.Ns Lg m) (hk : scope.kind = .function) (hX : ∀ p ∈ X, Lg < p.1 ∧ s.heap.get? p.1 = some p.2) (hb : AllBare s.gens)
    (hv : ∀ x pv, gvars.lookup x = some pv → scope.names.lookup x = some .local ∧ ∃ v, m x = some v ∧ pv.Is v) : At W (gcx c (gh s.heap Lg) Lg qual scope f cd X s.gens.toList) gvars X s := by
  obtain ⟨m0, cells, F, l, ⟨q1, q2, t1, t2, off, N⟩, G⟩ := a.ex
  have N1 := N (95, tabO q1) (.head _)
  have N2 := N (124, tabO q2) (.tail _ (.head _))
  have st : c.h₀.StaysIn (gh s.heap Lg) := fun b o e => gh_get (F.keep b o e) (Nat.lt_of_lt_of_le (Heap.lt_size e) (Nat.le_trans F.above (Nat.le_of_lt hL))) (fun q => by rw [q, N1.2.2] at e; cases e) (fun q => by rw [q, N2.2.2] at e; cases e)
  have Fg : Fr c.h₀ c.L (gh s.heap Lg) m0 := ⟨F.ns.at' fun o e => gh_get e hL (Ne.symm N1.2.1) (Ne.symm N2.2.1), st, F.above⟩
  have BG := pushX (env := c.env) a.ok.below Fg rfl a.ok.kind
  have h95 : (95 : Nat) < Lg := Nat.lt_trans (by decide) h124
  refine ⟨⟨⟨rfl, BG.stays, BG.frames⟩, a.ok.inK.keeps st, a.ok.top.keeps st, a.ok.bok, hk, rfl⟩, fun p hp => hp, m, [], ⟨hns, fun b o e => (gh_of e).1, gh_size⟩, fun x pv hx => .inl (hv x pv hx), ⟨q1, q2, t1, t2, fun p hp => ?_, fun p hp => ?_⟩, ⟨hb, List.prefix_rfl⟩⟩
  · have := (hX p hp).1
    exact ⟨Nat.ne_of_gt (Nat.lt_trans h95 this), Nat.ne_of_gt (Nat.lt_trans h124 this)⟩
  · rcases List.mem_cons.mp hp with rfl | hp
    · exact ⟨N1.1, Nat.ne_of_lt h95, hideAll_none _ (by simp)⟩
    · rcases List.mem_cons.mp hp with rfl | hp
      · exact ⟨N2.1, Nat.ne_of_lt h124, hideAll_none _ (by simp)⟩
      · exact ⟨(hX p hp).2, Nat.ne_of_gt (hX p hp).1, gh_none (Nat.le_of_lt (hX p hp).1)⟩
/-- the tables of code -/
def Tabs (h : Heap) : Prop := ∃ q1 q2 : Array Value, TriplesOk q1.toList ∧ TriplesOk q2.toList ∧ h.get? 95 = some (tabO q1) ∧ h.get? 124 = some (tabO q2)
def KeepB (D : List Addr) (h h' : Heap) : Prop := ∀ b o, b ∉ D → b ≠ 95 → b ≠ 124 → h.get? b = some o → h'.get? b = some o
theorem KeepB.trans {D : List Addr} {h h' h'' : Heap} (x : KeepB D h h') (y : KeepB D h' h'') : KeepB D h h'' := fun b o n1 n2 n3 e => y b o n1 n2 n3 (x b o n1 n2 n3 e)
theorem KeepB.mono {D D' : List Addr} {h h' : Heap} (x : KeepB D h h') (k : ∀ b ∈ D, b ∈ D') : KeepB D' h h' := fun b o n1 n2 n3 e => x b o (fun q => n1 (k b q)) n2 n3 e
/-- all that stands above Lg -/
def aboveL (h : Heap) (n : Nat) : Led := (List.range h.objs.size).filterMap fun b => if n < b then (h.get? b).map fun o => (b, o) else none
theorem above_mem {h : Heap} {n : Nat} {p : Addr × Obj} : p ∈ aboveL h n ↔ n < p.1 ∧ h.get? p.1 = some p.2 := by
  unfold aboveL
  rw [List.mem_filterMap]
  constructor
  · rintro ⟨b, _, hb⟩
    split at hb
    · rename_i hn
      cases e : h.get? b with
      | none => rw [e] at hb; cases hb
      | some o => rw [e] at hb; cases hb; exact ⟨hn, e⟩
    · cases hb
  · rintro ⟨hn, e⟩
    exact ⟨p.1, List.mem_range.mpr (Heap.lt_size e), by rw [if_pos hn, e]; rfl⟩
/-- what the generator's frame leaves as it was -/
theorem gen_keep {c' : Cx} {D : List Addr} {h : Heap} (a : At W c' gvars X s') (hg : c'.h₀ = gh h Lg) (hLg : c'.L = Lg) (hX : ∀ b o, Lg < b → b ∉ D → h.get? b = some o → (b, o) ∈ X) : KeepB (Lg :: D) h s'.heap ∧ Tabs s'.heap ∧ (∃ m, s'.heap.Ns Lg m) ∧ c'.pre <+: s'.gens.toList ∧ AllBare s'.gens := by
  obtain ⟨m0, cells, F, l, ⟨q1, q2, t1, t2, off, N⟩, G⟩ := a.ex
  refine ⟨fun b o n1 n2 n3 e => ?_, ⟨q1, q2, t1, t2, (N _ (.head _)).1, (N _ (.tail _ (.head _))).1⟩, ⟨m0, hLg ▸ F.ns⟩, G.2, G.1⟩
  rw [List.mem_cons, not_or] at n1
  rcases Nat.lt_trichotomy b Lg with hb | hb | hb
  · exact F.keep b o (by rw [hg]; exact gh_get e hb n2 n3)
  · exact absurd hb n1.1
  · exact (at_get a (hX b o hb n1.2 e)).1
/-- a frame after another has worked -/
theorem at_keep {D : List Addr} (a : At W c vars led s) (hD : ∀ b ∈ D, b ≠ c.L ∧ c.h₀.get? b = none ∧ ∀ o, s.heap.get? b = some o → ∀ u, o.data ≠ .cell u) (hl : ∀ p ∈ led, p.1 ∉ D) (k : KeepB D s.heap s'.heap) (T : Tabs s'.heap) (G : GP c.pre s'.gens) : At W c vars led s' := by
  obtain ⟨m, cells, F, l, ⟨q1, q2, t1, t2, off, N⟩, _⟩ := a.ex
  obtain ⟨p1, p2, u1, u2, T1, T2'⟩ := T
  have N1 := N (95, tabO q1) (.head _)
  have N2 := N (124, tabO q2) (.tail _ (.head _))
  refine ⟨a.ok, a.sub, m, cells.filter (fun p => !(D.contains p.1)), ⟨F.ns.at' fun o e => k c.L o (fun q => (hD _ q).1 rfl) (Ne.symm N1.2.1) (Ne.symm N2.2.1) e, fun b o e => k b o (fun q => by rw [(hD _ q).2.1] at e; cases e) (fun q => by rw [q, N1.2.2] at e; cases e) (fun q => by rw [q, N2.2.2] at e; cases e) (F.keep b o e), F.above⟩, fun x pv hx => ?_, ⟨p1, p2, u1, u2, fun p hp => ?_, fun p hp => ?_⟩, G⟩
  · rcases l x pv hx with h1 | ⟨hk', r, ob, ov, hc, hm, hod, hi⟩ | h3
    · exact .inl h1
    · refine .inr (.inl ⟨hk', r, ob, ov, hc, List.mem_filter.mpr ⟨hm, ?_⟩, hod, hi⟩)
      simp only [Bool.not_eq_true', List.contains_eq_mem, decide_eq_false_iff_not]
      intro e
      exact (hD _ e).2.2 _ (N (r, ob) (.tail _ (.tail _ (List.mem_append_left _ hm)))).1 _ hod
    · exact .inr (.inr h3)
  · rcases List.mem_append.mp hp with h | h
    · exact off p (List.mem_append_left _ (List.mem_filter.mp h).1)
    · exact off p (List.mem_append_right _ h)
  · rcases List.mem_cons.mp hp with rfl | hp
    · exact ⟨T1, N1.2⟩
    · rcases List.mem_cons.mp hp with rfl | hp
      · exact ⟨T2', N2.2⟩
      · have go : p ∈ cells ++ led ∧ p.1 ∉ D := by
          rcases List.mem_append.mp hp with h | h
          · exact ⟨List.mem_append_left _ (List.mem_filter.mp h).1, by simpa using (List.mem_filter.mp h).2⟩
          · exact ⟨List.mem_append_right _ h, hl p h⟩
        have No := N p (.tail _ (.tail _ go.1))
        have o1 := off p go.1
        exact ⟨k _ _ go.2 o1.1 o1.2 No.1, No.2⟩
end
end Mine
set_option maxRecDepth 100000
namespace Mine
def fcA (x : Int) : Int := (x - 1) % 13 + 1
def fcB (x : Int) : Str := TN ((x - 1) % 20)
/-- what the sleeping generator asks of the heap: its frame Lg, its iterator I over the list Rg, at place j -/
structure GI (W : Wd) (c : Cx) (Lg I Rg : Addr) (vals : List Value) (j : Nat) (s : Shared) : Prop where
  base : At W c [] c.led₀ s
  ns : ∃ m, s.heap.Ns Lg m
  it : s.heap.IsListIter I Rg j
  ls : s.heap.IsList Rg vals.toArray
/-- an iterator over a list -/
def IterO (o : Obj) : Prop := o.cls = .type "list_iterator" ∧ ∀ u, o.data ≠ .cell u
def GY (W : Wd) (c : Cx) (Lg : Addr) (N : Nat) (ns : List Int) : Protocol := fun n s₀ v s₁ κ =>
  ∃ I Rg vals t u1 u2, IntsAre vals ns ∧ Lg < Rg ∧ Rg < I ∧ (∀ o, s₀.heap.get? I = some o → IterO o) ∧ v = .ref t ∧ s₁.heap.get? t = some (Tup #[.int (fcA (ns.getD (N - 1 - n) 0)) u1, .str (fcB (ns.getD (N - 1 - n) 0)) u2]) ∧ (t ≠ c.L ∧ c.h₀.get? t = none ∧ t ≠ 95 ∧ t ≠ 124 ∧ t ≠ Lg) ∧
    KeepB [Lg, I] s₀.heap s₁.heap ∧ Tabs s₁.heap ∧ s₀.gens.toList <+: s₁.gens.toList ∧ AllBare s₁.gens ∧ s₁.os = s₀.os ∧ (∃ m, s₁.heap.Ns Lg m) ∧ s₁.heap.IsListIter I Rg (N - n) ∧ s₁.heap.IsList Rg vals.toArray ∧
    (n ≠ 0 → ∀ s'', GI W c Lg I Rg vals (N - n) s'' → κ (.send .none) s'')
theorem at_tabs {W : Wd} {c : Cx} {vars : Vars} {led : Led} {s : Shared} (a : At W c vars led s) : Tabs s.heap := by
  obtain ⟨m, cells, F, l, ⟨q1, q2, t1, t2, off, N⟩, G⟩ := a.ex
  exact ⟨q1, q2, t1, t2, (N _ (.head _)).1, (N _ (.tail _ (.head _))).1⟩
theorem ns_nocell {h : Heap} {L : Addr} {m : Str → Option Value} (x : h.Ns L m) : ∀ o, h.get? L = some o → ∀ u, o.data ≠ .cell u := by
  intro o ho u e
  obtain ⟨o', es, ep, h1, h2, _⟩ := x
  rw [ho] at h1; cases h1; rw [h2] at e; cases e
theorem none_above {W : Wd} {c : Cx} {vars : Vars} {led : Led} {s : Shared} (a : At W c vars led s) {b : Addr} (hb : c.L < b) : c.h₀.get? b = none := by
  obtain ⟨m, cells, F, l, _, _⟩ := a.ex
  exact Heap.get?_none_of_le (Nat.le_trans F.above (Nat.le_of_lt hb))
section
variable {W : Wd} {c : Cx} {Lg I Rg : Addr} {vals : List Value} {ns : List Int} {N : Nat} {qual : Str} {scope : Scope} {cd : Value} {pi p1 p2 p3 p4 p5 pp : Pos} {fb : List Stmt} {kr : Result → Sem Fin} {lr : List Value}
abbrev yBody (p1 p2 p3 p4 p5 : Pos) : List Stmt := [.Expr (.Yield (some (.Call (.Name "_tzolkin_from_count" p1) [.Name "i" p2] [] p3)) p4) p5]
abbrev RNo : GenEnd := fun _ _ r _ => r = .ok .next ∧ False
set_option maxHeartbeats 1000000 in
theorem gen_one {n j : Nat} {s₀ s : Shared} (hk : scope.kind = .function) (hco : scope.isCoroutine = false) (hi : scope.names.lookup ("i" : Str) = some .local) (hfc : scope.names.lookup ("_tzolkin_from_count" : Str) = some .globalImplicit)
    (room : c.Room 4) (hlt : ∀ p ∈ c.led₀, p.1 < c.L) (hL : c.L < Lg) (h124 : 124 < Lg) (hLR : Lg < Rg) (hRI : Rg < I) (hv : IntsAre vals ns) (hN : j + n + 1 = N) (hlen : N ≤ ns.length) (gi : GI W c Lg I Rg vals j s)
    (i0 : ∀ o, s₀.heap.get? I = some o → IterO o) (k0 : KeepB [Lg, I] s₀.heap s.heap) (g0 : s₀.gens.toList <+: s.gens.toList) (o0 : s.os = s₀.os)
    (hnext : n ≠ 0 → ∀ s'', GI W c Lg I Rg vals (j + 1) s'' → Seg (model pw W.w) c.A.in1 RNo (GY W c Lg N ns) n s'' (.forLoop (.Name "i" pi) (.ref I) (yBody p1 p2 p3 p4 p5) [] (envX qual scope Lg 108 cd [])) ((model pw W.w).den (.forLoop (.Name "i" pi) (.ref I) (yBody p1 p2 p3 p4 p5) [] (envX qual scope Lg 108 cd []))) [.ret kr none false lr (.func fb (envX qual scope Lg 108 cd [])) pp []] s'') :
    Seg (model pw W.w) c.A.in1 RNo (GY W c Lg N ns) (n + 1) s₀ (.forLoop (.Name "i" pi) (.ref I) (yBody p1 p2 p3 p4 p5) [] (envX qual scope Lg 108 cd [])) ((model pw W.w).den (.forLoop (.Name "i" pi) (.ref I) (yBody p1 p2 p3 p4 p5) [] (envX qual scope Lg 108 cd []))) [.ret kr none false lr (.func fb (envX qual scope Lg 108 cd [])) pp []] s := by
  obtain ⟨a, ⟨m, hns⟩, hit, hls⟩ := gi
  have hLI : Lg < I := Nat.lt_trans hLR hRI
  obtain ⟨tk, hx⟩ := intsAre_get hv j (by rw [intsAre_len hv]; omega)
  refine seg_forLoop (wpAny_pyNext_list_item hit hls (x := .int (ns.getD j 0) tk) (by simpa using hx) fun h' hit' hs => ⟨_, rfl, ?_⟩)
  refine assign_Name (wpAny_storeName_local (s := { s with heap := h' }) hi (hns.at' fun o e => (hs.2 _ (Nat.ne_of_lt hLI)).trans e) (fun h₂ hn₂ hs₂ => ?_) (by show (scope.kind == .class || (scope.kind == .module && Lg != mainGlobals)) = false; rw [hk]; rfl))
  have k1 : KeepB [Lg, I] s.heap h₂ := fun b o n1 _ _ e => by
    simp only [List.mem_cons, List.not_mem_nil, or_false, not_or] at n1
    exact (hs₂.2 b n1.1).trans ((hs.2 b n1.2).trans e)
  have hne95 : (95 : Nat) < Lg := Nat.lt_trans (by decide) h124
  have tabs2 : Tabs h₂ := by
    obtain ⟨q1, q2, t1, t2, e1, e2⟩ := at_tabs a
    exact ⟨q1, q2, t1, t2, (hs₂.2 _ (Nat.ne_of_lt hne95)).trans ((hs.2 _ (Nat.ne_of_lt (Nat.lt_trans hne95 hLI))).trans e1), (hs₂.2 _ (Nat.ne_of_lt h124)).trans ((hs.2 _ (Nat.ne_of_lt (Nat.lt_trans h124 hLI))).trans e2)⟩
  have a2 : At W c [] c.led₀ { s with heap := h₂, toks := s.toks + 1 } := at_keep (D := [Lg, I]) a (fun b hb => by
    simp only [List.mem_cons, List.not_mem_nil, or_false] at hb
    rcases hb with rfl | rfl
    · exact ⟨Nat.ne_of_gt hL, none_above a hL, ns_nocell hns⟩
    · refine ⟨Nat.ne_of_gt (Nat.lt_trans hL hLI), none_above a (Nat.lt_trans hL hLI), fun o ho u e => ?_⟩
      obtain ⟨o', h1, _, h2⟩ := hit
      rw [ho] at h1; cases h1; rw [h2] at e; cases e) (fun p hp => by
    simp only [List.mem_cons, List.not_mem_nil, or_false, not_or]
    have := hlt p hp
    exact ⟨Nat.ne_of_lt (Nat.lt_trans this hL), Nat.ne_of_lt (Nat.lt_trans (Nat.lt_trans this hL) hLI)⟩) k1 tabs2 (show GP c.pre s.gens from at_gens a)
  have ag := gen_at (qual := qual) (f := 108) (cd := cd) (gvars := [("i", .int (ns.getD j 0))]) a2 hL h124 hn₂ hk (X := aboveL h₂ Lg) (fun p hp => above_mem.mp hp) (show AllBare s.gens from (at_gens a).1) (fun x pv hx => by
    rw [List.lookup_cons] at hx
    cases q : x == ("i" : Str) with
    | true => rw [q] at hx; cases hx; rw [eq_of_beq q]; exact ⟨hi, _, if_pos rfl, ⟨_, rfl⟩⟩
    | false => rw [q] at hx; simp at hx)
  refine seg_execs_cons (seg_Expr_Yield rfl rfl rfl ?_ hco (by unfold interactive; simp [hk]))
  refine (x_fn (c := gcx c (gh h₂ Lg) Lg qual scope 108 cd (aboveL h₂ Lg) s.gens.toList) (W := W) (vars := [("i", .int (ns.getD j 0))]) (led := aboveL h₂ Lg) (Φ := fun pv l => ∃ own, PairP (fcA (ns.getD j 0)) (fcB (ns.getD j 0)) pv own ∧ l = own ++ aboveL h₂ Lg) (f_from_count (ns.getD j 0)) (by k_is) (k := 2) ⟨by show c.dp + 1 + 2 < _; have := room.1; omega, by show c.un + 4 + 20 < _; have := room.2; omega⟩ (fun _ h => h.elim) (a_pure (Pe.name rfl rfl) (a_nil ⟨rfl, (fun _ h => nomatch h), fun pv own hp => ⟨own, hp, rfl⟩⟩)) hfc) _ _ _ ag (fun v pv led' s' hΦ hv' a' os' => ?_) (fun _ _ _ hX => hX.elim)
  obtain ⟨own, ⟨t, u1, u2, rfl, rfl⟩, rfl⟩ := hΦ
  obtain rfl : v = .ref t := hv'
  intro kap hkap
  obtain ⟨k2, tabs3, ⟨m3, hn3⟩, gp3, ab3⟩ := gen_keep (h := h₂) (D := []) (Lg := Lg) a' rfl rfl fun b o hb _ e => List.mem_append_right _ (above_mem.mpr ⟨hb, e⟩)
  have ht := at_get a' (List.mem_append_left _ (.head _))
  have hoff : t ≠ 95 ∧ t ≠ 124 := by
    obtain ⟨_, cells, _, _, ⟨_, _, _, _, off, _⟩, _⟩ := a'.ex
    exact off _ (List.mem_append_right _ (.head _))
  have htn : ∀ o, h₂.get? t = some o → t < Lg → False := fun o e hb => by
    have := gh_get e hb hoff.1 hoff.2
    have h9 : (gh h₂ Lg).get? t = none := ht.2.2
    rw [h9] at this; cases this
  refine ⟨I, Rg, vals, t, u1, u2, hv, hLR, hRI, i0, rfl, ?_, ⟨?_, ?_, hoff.1, hoff.2, ht.2.1⟩, (k0.trans k1).trans (k2.mono fun b hb => ?_), tabs3, g0.trans gp3, ab3, os'.trans o0, ⟨m3, hn3⟩, ?_, ?_, fun hn s'' gi'' => ?_⟩
  · rw [show N - 1 - n = j by omega]; exact ht.1
  · intro e
    obtain ⟨_, _, F2, _, _, _⟩ := a2.ex
    obtain ⟨o, _, _, ho, _⟩ := F2.ns
    exact htn o (by rw [e]; exact ho) (by rw [e]; exact hL)
  · cases q : c.h₀.get? t with
    | none => rfl
    | some o =>
      obtain ⟨_, _, F2, _, _, _⟩ := a2.ex
      exact (htn o (F2.keep t o q) (Nat.lt_of_lt_of_le (Heap.lt_size q) (Nat.le_trans F2.above (Nat.le_of_lt hL)))).elim
  · simp only [List.mem_cons, List.not_mem_nil, or_false] at hb ⊢; exact .inl hb
  · rw [show N - n = j + 1 by omega]
    obtain ⟨o, h1, h2⟩ := hit'
    exact ⟨o, k2 _ _ (by simp only [List.mem_cons, List.not_mem_nil, or_false]; exact Nat.ne_of_gt hLI) (Nat.ne_of_gt (Nat.lt_trans hne95 hLI)) (Nat.ne_of_gt (Nat.lt_trans h124 hLI)) ((hs₂.2 _ (Nat.ne_of_gt hLI)).trans h1), h2⟩
  · obtain ⟨o, h1, h2⟩ := hls
    exact ⟨o, k2 _ _ (by simp only [List.mem_cons, List.not_mem_nil, or_false]; exact Nat.ne_of_gt hLR) (Nat.ne_of_gt (Nat.lt_trans hne95 hLR)) (Nat.ne_of_gt (Nat.lt_trans h124 hLR)) ((hs₂.2 _ (Nat.ne_of_gt hLR)).trans ((hs.2 _ (Nat.ne_of_lt hRI)).trans h1)), h2⟩
  · rw [show N - n = j + 1 by omega] at gi''
    exact hkap .none s'' (seg_again (by rfl) (hnext hn s'' gi''))
theorem gen_turn (hk : scope.kind = .function) (hco : scope.isCoroutine = false) (hi : scope.names.lookup ("i" : Str) = some .local) (hfc : scope.names.lookup ("_tzolkin_from_count" : Str) = some .globalImplicit)
    (room : c.Room 4) (hlt : ∀ p ∈ c.led₀, p.1 < c.L) (hL : c.L < Lg) (h124 : 124 < Lg) (hLR : Lg < Rg) (hRI : Rg < I) (hv : IntsAre vals ns) (hlen : N ≤ ns.length) : ∀ n j s₀ s, j + n + 1 = N → GI W c Lg I Rg vals j s →
    (∀ o, s₀.heap.get? I = some o → IterO o) → KeepB [Lg, I] s₀.heap s.heap → s₀.gens.toList <+: s.gens.toList → s.os = s₀.os →
    Seg (model pw W.w) c.A.in1 RNo (GY W c Lg N ns) (n + 1) s₀ (.forLoop (.Name "i" pi) (.ref I) (yBody p1 p2 p3 p4 p5) [] (envX qual scope Lg 108 cd [])) ((model pw W.w).den (.forLoop (.Name "i" pi) (.ref I) (yBody p1 p2 p3 p4 p5) [] (envX qual scope Lg 108 cd []))) [.ret kr none false lr (.func fb (envX qual scope Lg 108 cd [])) pp []] s
  | 0, j, s₀, s, hN, gi, i0, k0, g0, o0 => gen_one hk hco hi hfc room hlt hL h124 hLR hRI hv hN hlen gi i0 k0 g0 o0 fun h => absurd rfl h
  | n + 1, j, s₀, s, hN, gi, i0, k0, g0, o0 => gen_one hk hco hi hfc room hlt hL h124 hLR hRI hv hN hlen gi i0 k0 g0 o0 fun _ s'' gi'' => gen_turn hk hco hi hfc room hlt hL h124 hLR hRI hv hlen n (j + 1) s'' s'' (by omega) gi'' (fun o ho => by obtain ⟨o', h1, h2, h9⟩ := gi''.it; rw [ho] at h1; cases h1; exact ⟨h2, fun u e => by rw [h9] at e; cases e⟩) (fun _ _ _ _ _ e => e) List.prefix_rfl rfl
end
end Mine
set_option maxRecDepth 100000
namespace Mine
section
variable {W : Wd} {c : Cx} {vars : Vars} {led : Led} {Φ : PV → Led → Prop} {s s' : Shared}
theorem at_grow (a : At W c vars led s) (k : ∀ b o, s.heap.get? b = some o → s'.heap.get? b = some o) (G : GP c.pre s'.gens) : At W c vars led s' := by
  obtain ⟨q1, q2, t1, t2, e1, e2⟩ := at_tabs a
  exact at_keep (D := []) a (fun b hb => nomatch hb) (fun p _ h => nomatch h) (fun b o _ _ _ e => k b o e) ⟨q1, q2, t1, t2, k _ _ e1, k _ _ e2⟩ G
theorem at_new {o : Obj} (a : At W c vars led s) (k : ∀ b o, s.heap.get? b = some o → s'.heap.get? b = some o) (hn : s'.heap.get? s.heap.objs.size = some o) (G : GP c.pre s'.gens) : At W c vars ((s.heap.objs.size, o) :: led) s' := by
  obtain ⟨m, cells, F, l, ⟨q1, q2, t1, t2, off, N⟩, _⟩ := id a.ex
  exact at_add (at_grow a k G) hn (Nat.ne_of_gt F.ns.lt) (none_above a F.ns.lt) ⟨Nat.ne_of_gt (Heap.lt_size (N _ (.head _)).1), Nat.ne_of_gt (Heap.lt_size (N _ (.tail _ (.head _))).1)⟩
theorem at_lt {p : Addr × Obj} (a : At W c vars led s) (h : p ∈ led) : p.1 < s.heap.objs.size := Heap.lt_size (at_get a h).1
theorem ints_of_items : ∀ {n : Nat} {vs : List Value} {f : Nat → Int}, vs.length = n → (∀ (j : Nat) (v : Value), vs[j]? = some v → ∃ t, v = Value.int (f j) t) → IntsAre vs ((List.range n).map f)
  | 0, [], _, _, _ => .nil
  | n + 1, v :: vs, f, hl, h => by
    obtain ⟨t, rfl⟩ := h 0 v rfl
    rw [List.range_succ_eq_map, List.map_cons, List.map_map]
    exact .cons _ _ (ints_of_items (f := f ∘ Nat.succ) (by simpa using hl) fun j v hj => h (j + 1) v (by simpa using hj))
/-- `list(range(a, b))` -/
theorem x_lrange {e1 e2 : Expr} {a b : Int} {n : Nat} {np1 np2 p1 p2 : Pos} (eL : nsIn (hd.heap_39 W.w.params) mainGlobals "list" = some none) (eR : nsIn (hd.heap_39 W.w.params) mainGlobals "range" = some none) (hkL : c.env.kindOf "list" = some .globalImplicit) (hkR : c.env.kindOf "range" = some .globalImplicit)
    (h1 : Pe vars e1 (.int a)) (h2 : Pe vars e2 (.int b)) (ha : 0 ≤ a) (hb : b < 1000) (hab : a + n = b) (h : ∀ t o vs, (∀ p ∈ led, p.1 < t) → LisO o vs → IntsAre vs (List.map (fun (i : Nat) => a + (i : Int)) (List.range n)) → Φ (.ref t) ((t, o) :: led)) :
    Wx W c vars led (.Call (.Name "list" np1) [.Call (.Name "range" np2) [e1, e2] [] p1] [] p2) Φ := by
  intro s Q E at_ q bad
  obtain ⟨m0, cells0, F0, _, _, _⟩ := at_.ex
  refine Call_ (nameX_B F0 at_.ok.inK (topRead_of at_.ok.top) eL PyProof.Rows.Boot.«list» (by decide) (PyProof.Rows.callWith_type1 ?_) at_.ok.kind hkL (by decide))
  refine args_cons (Call_ (nameX_B F0 at_.ok.inK (topRead_of at_.ok.top) eR PyProof.Rows.Boot.«range» (by decide) (PyProof.Rows.callWith_type1 ?_ (pe_plain h1) (by rw [pe_plain h2]; rfl)) at_.ok.kind hkR (by decide)))
  refine args_cons (pe_ok h1 at_ fun v1 k1 hv1 => ?_) (pe_plain h1)
  refine args_cons (pe_ok h2 (at_.toks k1) fun v2 k2 hv2 => ?_) (pe_plain h2)
  obtain ⟨t1, rfl⟩ := hv1
  obtain ⟨t2, rfl⟩ := hv2
  refine args_nil (call_range_2 ?_)
  refine args_nil ?_
  have hrs : Builtin.Range.rangeSize a b 1 = (n : Nat) := by rw [rangeSize_one]; split <;> omega
  have a1 := at_push (at_.toks k2) (o := { cls := .type "range", data := .fields #[.int a t1, .int b t2, .int 1 k2] }) rfl
  refine call_list_range rfl (IsRange.new _ _ _ _ _ _ _) (small_one (by omega) (by omega) (by omega) (by omega)) hrs (by omega) fun h' tk acc' c' hk hget hit => ?_
  have a2 := at_new a1 (s' := { heap := h', gens := s.gens, drawn := s.drawn, toks := tk, os := s.os }) hk hget (show GP c.pre s.gens from at_gens at_)
  refine q (.ref _) (.ref _) _ _ (h _ { cls := .type "list", dict := none, data := .seq acc' c', slots := #[] } acc'.toList (fun p hp => at_lt a1 (.tail _ hp)) ⟨rfl, c', by simp⟩ (ints_of_items hit.1 fun j v hj => ?_)) rfl (at_led a2 (fun p hp => ?_) fun p hp => .tail _ (at_.sub p hp)) rfl
  · obtain ⟨t, e⟩ := hit.2 j v (by simpa using hj)
    exact ⟨t, by rw [e, Int.mul_one]⟩
  · rcases List.mem_cons.mp hp with rfl | hp
    · exact .head _
    · exact .tail _ (.tail _ hp)
/-- two lists put together -/
theorem x_lcat {a b : Expr} {p : Pos} (h : Wx W c vars led a fun pa l1 => Wx W c vars l1 b fun pb l2 => ∃ t u o1 o2 vs ws, pa = .ref t ∧ pb = .ref u ∧ (t, o1) ∈ l2 ∧ (u, o2) ∈ l2 ∧ LisO o1 vs ∧ LisO o2 ws ∧ vs.length + ws.length < 900 ∧ ∀ r o, (∀ p ∈ l2, p.1 < r) → LisO o (vs ++ ws) → Φ (.ref r) ((r, o) :: l2)) : Wx W c vars led (.BinOp a .Add b p) Φ := by
  intro s Q E at_ q bad
  refine wpAny_BinOp (h s _ _ at_ (fun v pv led' s' hw hv at' os' => ?_) bad)
  refine hw s' _ _ at' (fun v2 pv2 led2 s2 h2 hv2 at2 os2 => ?_) (fun X e s3 r1 r2 r3 => bad X e s3 r1 r2 (r3.trans os'))
  obtain ⟨t, u, o1, o2, vs, ws, rfl, rfl, hm, hn, ⟨c1, n1, d1⟩, ⟨c2, n2, d2⟩, hl, hΦ⟩ := h2
  obtain rfl : v = .ref t := hv
  obtain rfl : v2 = .ref u := hv2
  obtain ⟨m, cells, F, l, ⟨q1, q2, u1, u2, off, N⟩, G⟩ := id at2.ex
  have := sizeLine_big
  refine add_lists F N ⟨_, (at_get at2 hm).1, c1, n1, d1⟩ ⟨_, (at_get at2 hn).1, c2, n2, d2⟩ (fun h' F' N' => ?_) (by omega)
  have a3 : At W c vars led2 { s2 with heap := h' } := ⟨at2.ok, at2.sub, m, cells, F', l, ⟨q1, q2, u1, u2, off, fun p hp => N' p (.tail _ hp)⟩, G⟩
  have N0 := N' _ (.head _)
  exact q (.ref s2.heap.objs.size) (.ref s2.heap.objs.size) _ { s2 with heap := h' } (hΦ _ _ (fun p hp => at_lt at2 hp) ⟨rfl, _, rfl⟩) rfl (at_add a3 N0.1 N0.2.1 N0.2.2 ⟨Nat.ne_of_gt (Heap.lt_size (N _ (.head _)).1), Nat.ne_of_gt (Heap.lt_size (N _ (.tail _ (.head _))).1)⟩) (os2.trans os')
/-- `a or b`, a true -/
theorem x_or {a b : Expr} {p : Pos} {pv : PV} (h : Pe vars a pv) (ht : (∃ i, pv = .int i ∧ i ≠ 0) ∨ ∃ x : Str, pv = .str x ∧ 0 < x.length ∧ x.length < 1000) (hq : Φ pv led) : Wx W c vars led (.BoolOp .Or [a, b] p) Φ := by
  intro s Q E at_ q bad
  refine BoolOp_or (pe_ok h at_ fun v k hv => ?_)
  rcases ht with ⟨i, rfl, hi⟩ | ⟨x, rfl, hx, hx2⟩
  · obtain ⟨t, rfl⟩ := hv
    refine PyProof.Rows.truthy_int ?_
    rw [show (i != 0) = true by simpa using hi, if_pos rfl]
    exact q _ _ led _ hq ⟨_, rfl⟩ (at_.toks k) rfl
  · obtain ⟨t, rfl⟩ := hv
    refine P.truthy_str (by omega) ?_
    rw [show ((x.length : Int) != 0) = true by simp; omega, if_pos rfl]
    exact q _ _ led _ hq ⟨_, rfl⟩ ((at_.toks k).toks _) rfl
theorem cp_notin30 {k : Str} (h : k ∈ tzols) : Cp W c led .NotIn (.str k) (.ref 30) false := by
  rintro s Q E _ _ vars a ⟨t, rfl⟩ rfl q
  obtain ⟨m, cells, F, l, _, _⟩ := a.ex
  obtain ⟨vs, hl, hi⟩ := list30 (Frag.In.keeps a.ok.inK F.keep)
  refine notin_list_strs hl hi ?_
  rw [show tzols.any (· == k) = true from List.any_eq_true.mpr ⟨k, h, beq_self_eq_true _⟩]
  exact q
end
end Mine
set_option maxRecDepth 100000
namespace Mine
section
variable {W : Wd} {c : Cx} {gvars : Vars} {s : Shared} {Lg ga : Addr} {m : Str → Option Value} {qual : Str} {scope : Scope} {cd : Value} {ns : List Int} {pi p1 p2 p3 p4 p5 pf pr : Pos} {b6 : List Stmt}
/-- the generator's own work up to its first yield -/
theorem gen_seg {n : Nat} (hk : scope.kind = .function) (hco : scope.isCoroutine = false) (hi : scope.names.lookup ("i" : Str) = some .local) (hfc : scope.names.lookup ("_tzolkin_from_count" : Str) = some .globalImplicit)
    (room : c.Room 10) (hlt : ∀ p ∈ c.led₀, p.1 < c.L) (hL : c.L < Lg) (h124 : 124 < Lg) (hlen : n + 1 ≤ ns.length) (a : At W c [] c.led₀ s) (hns : s.heap.Ns Lg m) (hga : ∃ o, s.heap.get? ga = some o) (hLa : Lg < ga)
    (hv : ∀ x pv, gvars.lookup x = some pv → scope.names.lookup x = some .local ∧ ∃ v, m x = some v ∧ pv.Is v)
    (hb : ∀ cg : Cx, cg.cs = scope → cg.relE = (fun _ => False) → cg.Room 7 → Bd W cg gvars cg.led₀ b6 fun v' l' => ∃ Rg lo vals, List.lookup ("ranged" : Str) v' = some (PV.ref Rg) ∧ (Rg, lo) ∈ l' ∧ LisO lo vals ∧ IntsAre vals ns ∧ ∀ p ∈ cg.led₀, p.1 < Rg) :
    Seg (model pw W.w) c.A.in1 RNo (GY W c Lg (n + 1) ns) (n + 1) s (.func (b6 ++ [.For (.Name "i" pi) (.Name "ranged" pr) (yBody p1 p2 p3 p4 p5) [] pf]) (envX qual scope Lg 108 cd [])) ((model pw W.w).den (.func (b6 ++ [.For (.Name "i" pi) (.Name "ranged" pr) (yBody p1 p2 p3 p4 p5) [] pf]) (envX qual scope Lg 108 cd []))) [] s := by
  refine seg_func (seg_pre ?_)
  have ag := gen_at (qual := qual) (f := 108) (cd := cd) (gvars := gvars) a hL h124 hns hk (X := aboveL s.heap Lg) (fun p hp => above_mem.mp hp) (at_gens a).1 hv
  refine hb (gcx c (gh s.heap Lg) Lg qual scope 108 cd (aboveL s.heap Lg) s.gens.toList) rfl rfl ⟨by show c.dp + 1 + 7 < _; have := room.1; omega, by show c.un + 4 + 70 < _; have := room.2; omega⟩ s _ _ ag (fun v pv own led m s' h => h.elim) (fun vars' led' s1 hN a1 os1 => ⟨rfl, ?_⟩) (fun _ _ _ h => h.elim)
  obtain ⟨Rg, lo, vals, hl, hm, ⟨hc9, n9, hd9⟩, hints, hbig⟩ := hN
  obtain ⟨o, ho⟩ := hga
  have hLR : Lg < Rg := Nat.lt_trans hLa (hbig (ga, o) (above_mem.mpr ⟨hLa, ho⟩))
  have hRI := at_lt a1 hm
  obtain ⟨k1, tabs1, ⟨m1, hn1⟩, gp1, ab1⟩ := gen_keep (h := s.heap) (D := []) (Lg := Lg) a1 rfl rfl fun b o hb _ e => a1.sub _ (above_mem.mpr ⟨hb, e⟩)
  refine seg_execs_cons (seg_For (name_ok (c := gcx c (gh s.heap Lg) Lg qual scope 108 cd (aboveL s.heap Lg) s.gens.toList) hl rfl a1 fun v hv => ?_) (by intro _; rfl))
  obtain rfl : v = .ref Rg := hv
  have hls : s1.heap.IsList Rg vals.toArray := ⟨lo, (at_get a1 hm).1, hc9, n9, hd9⟩
  refine wpAny_pyIter_list hls fun p => ?_
  have kp : ∀ (o : Obj) b x, s1.heap.get? b = some x → (s1.heap.push o).get? b = some x := fun o b x e => Heap.get?_push_of_some _ e
  have k2 : ∀ o : Obj, KeepB [Lg] s.heap (s1.heap.push o) := fun o b x n1 n2 n3 e => kp o b x (k1 b x n1 n2 n3 e)
  refine gen_turn hk hco hi hfc ⟨by have := room.1; omega, by have := room.2; omega⟩ hlt hL h124 hLR hRI hints hlen n 0 s _ (by omega) ⟨at_keep (D := [Lg]) a (fun b hb => ?_) (fun p hp => ?_) (k2 _) ?_ ⟨ab1, (at_gens a).2.trans gp1⟩, ⟨m1, hn1.at' fun o e => kp _ _ _ e⟩, ⟨_, Heap.get?_push_size _ rfl, rfl, rfl⟩, ?_⟩ ?_ ((k2 _).mono fun b hb => ?_) gp1 os1
  · simp only [List.mem_cons, List.not_mem_nil, or_false] at hb
    subst hb
    exact ⟨Nat.ne_of_gt hL, none_above a hL, ns_nocell hns⟩
  · simp only [List.mem_cons, List.not_mem_nil, or_false]
    exact Nat.ne_of_lt (Nat.lt_trans (hlt p hp) hL)
  · obtain ⟨q1, q2, t1, t2, e1, e2⟩ := tabs1
    exact ⟨q1, q2, t1, t2, kp _ _ _ e1, kp _ _ _ e2⟩
  · obtain ⟨o, h1, h2⟩ := hls
    exact ⟨o, kp _ _ _ h1, h2⟩
  · intro o ho
    exfalso
    have h95 : (95 : Nat) < Lg := Nat.lt_trans (by decide) h124
    have hLI := Nat.lt_trans hLR hRI
    have := k1 _ _ (by simp only [List.mem_cons, List.not_mem_nil, or_false]; exact Nat.ne_of_gt hLI) (Nat.ne_of_gt (Nat.lt_trans h95 hLI)) (Nat.ne_of_gt (Nat.lt_trans h124 hLI)) ho
    exact Nat.lt_irrefl _ (Heap.lt_size this)
  · simp only [List.mem_cons, List.not_mem_nil, or_false] at hb ⊢
    exact .inl hb
end
end Mine
set_option maxRecDepth 100000
namespace Mine
def LisP (o : Obj) (vs : List Value) : Prop := o.cls = .type "list" ∧ o.dict = none ∧ ∃ n, o.data = .seq vs.toArray n
def datN (ns : List Int) (n : Nat) : List Dat := (List.range n).map fun i => .tuple [.int (fcA (ns.getD i 0)), .str (fcB (ns.getD i 0))]
theorem datAll_snoc {l : Led} : ∀ {vs : List Value} {ds : List Dat} {v : Value} {d : Dat}, DatAll l vs ds → DatIn l v d → DatAll l (vs ++ [v]) (ds ++ [d])
  | _, _, _, _, .nil, h => .cons h .nil
  | _, _, _, _, .cons h r, h2 => .cons h (datAll_snoc r h2)
theorem datN_succ (ns : List Int) (n : Nat) : datN ns (n + 1) = datN ns n ++ [.tuple [.int (fcA (ns.getD n 0)), .str (fcB (ns.getD n 0))]] := by
  unfold datN
  rw [List.range_succ, List.map_append]; rfl
theorem pre_set {pre : List GenState} {s : Shared} {g : Nat} {x : GenState} (hp : pre <+: s.gens.toList) (hg : pre.length ≤ g) (hb : x.bare = true) : pre <+: (s.setGen g x).gens.toList := by
  by_cases hs : g < s.gens.size
  · exact pre_only hp hg (.inr ⟨GenOnly.setGen s g x, fun y hy => by rw [setGen_self (Array.getElem?_eq_getElem hs)] at hy; cases hy; exact hb⟩)
  · rw [show (s.setGen g x).gens = s.gens by unfold Shared.setGen; exact Array.setIfInBounds_eq_of_size_le (Nat.le_of_not_lt hs)]; exact hp
theorem bare_set {s : Shared} {g : Nat} {x : GenState} (h : AllBare s.gens) (hb : x.bare = true) : AllBare (s.setGen g x).gens := by
  intro y hy
  obtain ⟨i, hi⟩ := Array.mem_iff_getElem?.mp hy
  unfold Shared.setGen at hi
  rw [Array.getElem?_setIfInBounds] at hi
  split at hi
  · split at hi
    · cases hi; exact hb
    · cases hi
  · exact h _ (Array.mem_of_getElem? hi)
theorem get_pre {a b : Array GenState} {g : Nat} {x : GenState} (h : a.toList <+: b.toList) (e : a[g]? = some x) : b[g]? = some x := by
  obtain ⟨t, ht⟩ := h
  rw [← Array.getElem?_toList, ← ht, List.getElem?_append_left (by simpa using (Array.getElem?_eq_some_iff.mp e).1), Array.getElem?_toList]
  exact e
section
variable {W : Wd} {c : Cx} {Lg g N : Nat} {ns : List Int}
/-- the generator sleeps, its next item is the j-th; GL what it stands on -/
def Phase (W : Wd) (c : Cx) (Lg : Addr) (g N : Nat) (ns : List Int) (j : Nat) (GL : Led) (s : Shared) : Prop :=
  (∀ p ∈ GL, Lg ≤ p.1) ∧ (∃ o, (Lg, o) ∈ GL ∧ ∀ u, o.data ≠ .cell u) ∧ ∃ gs, s.gens[g]? = some gs ∧ ∀ s'', At W c [] c.led₀ s'' → (∀ p ∈ GL, s''.heap.get? p.1 = some p.2) → gs.Goes (model pw W.w) c.A.in1 RNo (GY W c Lg N ns) (N - j) (.send .none) s''
theorem Phase.on {j : Nat} {GL : Led} {s s' : Shared} (h : Phase W c Lg g N ns j GL s) (e : s'.gens = s.gens) : Phase W c Lg g N ns j GL s' := by
  obtain ⟨h1, h2, gs, h3, h4⟩ := h
  exact ⟨h1, h2, gs, by rw [e]; exact h3, h4⟩
/-- one item -/
theorem gen_next {j : Nat} {GL R : Led} {vars : Vars} {s : Shared} {ga : Addr} {Q : Option Value → Shared → Prop} {E : Value → Shared → Prop} (hj : j < N) (hlt : ∀ p ∈ c.led₀, p.1 < c.L) (hL : c.L < Lg) (h124 : 124 < Lg) (room : c.Room 10) (hg : c.pre.length ≤ g) (a : At W c vars (R ++ GL) s) (ph : Phase W c Lg g N ns j GL s) (hR : ∀ p ∈ R, p.1 ≠ Lg ∧ (p.1 < Lg ∨ p.2.cls ≠ .type "list_iterator")) (hsub : ∀ p ∈ c.led₀, p ∈ R) (hgen : s.heap.IsGen ga g)
    (hq : ∀ t u1 u2 GL' s', At W c vars ((t, Tup #[.int (fcA (ns.getD j 0)) u1, .str (fcB (ns.getD j 0)) u2]) :: (R ++ GL')) s' → t ≠ Lg → (j + 1 < N → Phase W c Lg g N ns (j + 1) GL' s') → (∀ p ∈ GL', Lg ≤ p.1) → s'.os = s.os → Q (some (.ref t)) s') :
    wpAny (model pw W.w) c.A (pyNext (.ref ga)) Q E s := by
  obtain ⟨hGL, ⟨oL, hoL, hoc⟩, gs, hgs, hgo⟩ := ph
  have hnolim : s.heap.NoLimit := by
    obtain ⟨_, _, F, _, _, _⟩ := a.ex
    exact (Top.nolimit a.ok.top).keeps F.keep
  have aR : At W c vars R s := at_led a (fun p hp => List.mem_append_left _ hp) hsub
  have a0 : At W c [] c.led₀ s := at_vars (at_led aR hsub fun p hp => hp) (fun x pv h => by simp at h)
  have hrun : (s.setGen g .running).gens[g]? = some .running := setGen_self hgs
  have a1 : At W c [] c.led₀ (s.setGen g .running) := at_grow a0 (fun b o e => e) ⟨bare_set (at_gens a).1 rfl, pre_set (at_gens a).2 hg rfl⟩
  obtain ⟨mm, hmm⟩ : ∃ mm, N - j = mm + 1 := ⟨N - j - 1, by omega⟩
  rw [hmm] at hgo
  refine wpAny_pyNext_genexpQ (P := fun _ _ _ => False) (Y := GY W c Lg N ns) (n := mm + 1) rfl hnolim (Nat.lt_of_le_of_lt (Nat.le_add_right _ _) room.1) hgen hgs ?_ (fun v s₁ gs' hb' hY => ?_) (fun _ h => h.elim)
  · exact hgo _ a1 fun p hp => (at_get a (List.mem_append_right _ hp)).1
  obtain ⟨I, Rg, vals, t, u1, u2, hv, hLR, hRI, hI0, rfl, ht, ⟨t1, t2, t3, t4, t5⟩, kB, tb, gp, ab, os1, ⟨m1, hn1⟩, hit, hls, hnext⟩ := hY
  rw [show N - 1 - (mm + 1 - 1) = j by omega] at ht
  have hLI := Nat.lt_trans hLR hRI
  have hg1 : s₁.gens[g]? = some .running := get_pre gp hrun
  have hpre1 : c.pre <+: s₁.gens.toList := (at_gens a1).2.trans gp
  have hsing : ∀ p ∈ R, p.1 ∉ [Lg, I] := fun p hp hm => by
    simp only [List.mem_cons, List.not_mem_nil, or_false] at hm
    rcases hm with hm | hm
    · exact (hR p hp).1 hm
    · have h1 := (at_get aR hp).1
      rcases (hR p hp).2 with h2 | h2
      · rw [hm] at h2; exact Nat.lt_irrefl _ (Nat.lt_trans hLI h2)
      · exact h2 (hI0 _ (by rw [← hm]; exact h1)).1
  have a2 : At W c vars R (s₁.setGen g gs') := at_keep (D := [Lg, I]) aR (fun b hb => by
    simp only [List.mem_cons, List.not_mem_nil, or_false] at hb
    rcases hb with rfl | rfl
    · exact ⟨Nat.ne_of_gt hL, none_above a hL, fun o ho u e => by rw [(at_get a (List.mem_append_right _ hoL)).1] at ho; cases ho; exact hoc u e⟩
    · refine ⟨Nat.ne_of_gt (Nat.lt_trans hL hLI), none_above a (Nat.lt_trans hL hLI), fun o ho u e => ?_⟩
      exact (hI0 o ho).2 u e) hsing kB tb ⟨bare_set ab hb', pre_set hpre1 hg hb'⟩
  obtain ⟨oL', ep, epn, hoL', hdL', _⟩ := id hn1
  obtain ⟨oI, hoI, _, hdI⟩ := id hit
  obtain ⟨oR, hoR, _⟩ := id hls
  have hc95 : (95 : Nat) ≠ Lg ∧ (124 : Nat) ≠ Lg ∧ (95 : Nat) ≠ I ∧ (124 : Nat) ≠ I ∧ (95 : Nat) ≠ Rg ∧ (124 : Nat) ≠ Rg := by
    have h95 : (95 : Nat) < Lg := Nat.lt_trans (by decide) h124
    exact ⟨Nat.ne_of_lt h95, Nat.ne_of_lt h124, Nat.ne_of_lt (Nat.lt_trans h95 hLI), Nat.ne_of_lt (Nat.lt_trans h124 hLI), Nat.ne_of_lt (Nat.lt_trans h95 hLR), Nat.ne_of_lt (Nat.lt_trans h124 hLR)⟩
  have a3 := at_add (o := oR) a2 (I := Rg) hoR (Nat.ne_of_gt (Nat.lt_trans hL hLR)) (none_above a (Nat.lt_trans hL hLR)) ⟨Ne.symm hc95.2.2.2.2.1, Ne.symm hc95.2.2.2.2.2⟩
  have a4 := at_add (o := oI) a3 (I := I) hoI (Nat.ne_of_gt (Nat.lt_trans hL hLI)) (none_above a (Nat.lt_trans hL hLI)) ⟨Ne.symm hc95.2.2.1, Ne.symm hc95.2.2.2.1⟩
  have a5 := at_add (o := oL') a4 (I := Lg) hoL' (Nat.ne_of_gt hL) (none_above a hL) ⟨Ne.symm hc95.1, Ne.symm hc95.2.1⟩
  have a6 := at_add (I := t) a5 ht t1 t2 ⟨t3, t4⟩
  refine hq t u1 u2 [(Lg, oL'), (I, oI), (Rg, oR)] _ (at_led a6 (fun p hp => ?_) fun p hp => ?_) t5 (fun hj1 => ?_) (fun p hp => ?_) os1
  · simp only [List.mem_cons, List.mem_append, List.not_mem_nil, or_false] at hp ⊢
    rcases hp with h | h | h | h | h <;> simp [h]
  · exact .tail _ (List.mem_append_left _ (hsub p hp))
  · refine ⟨fun p hp => ?_, ⟨oL', .head _, fun u e => by rw [hdL'] at e; cases e⟩, gs', setGen_self hg1, fun s'' as hs => ?_⟩
    · simp only [List.mem_cons, List.not_mem_nil, or_false] at hp
      rcases hp with rfl | rfl | rfl
      · exact Nat.le_refl _
      · exact Nat.le_of_lt hLI
      · exact Nat.le_of_lt hLR
    · rw [show N - (j + 1) = mm by omega]
      obtain ⟨oI', hoI', hcI⟩ := hit
      obtain ⟨oR', hoR', hcR⟩ := hls
      refine hnext (by omega) s'' ⟨as, ⟨m1, hn1.at' fun o e => ?_⟩, ⟨oI, hs (I, oI) (.tail _ (.head _)), ?_⟩, ⟨oR, hs (Rg, oR) (.tail _ (.tail _ (.head _))), ?_⟩⟩
      · rw [hoL'] at e; cases e; exact hs (Lg, oL') (.head _)
      · rw [hoI] at hoI'; cases hoI'; exact hcI
      · rw [hoR] at hoR'; cases hoR'; exact hcR
  · simp only [List.mem_cons, List.not_mem_nil, or_false] at hp
    rcases hp with rfl | rfl | rfl
    · exact Nat.le_refl _
    · exact Nat.le_of_lt hLI
    · exact Nat.le_of_lt hLR
end
end Mine
set_option maxRecDepth 100000
namespace Mine
section
variable {W : Wd} {c : Cx} {vars : Vars} {led : Led}
theorem st_loc {x : Str} {pv : PV} {v : Value} {s : Shared} {Q : Unit → Shared → Prop} {E : Value → Shared → Prop} (hx : c.env.kindOf x = some .local) (hv : pv.Is v) (a : At W c vars led s) (h : ∀ h', At W c ((x, pv) :: vars) led { s with heap := h', toks := s.toks + 1 } → Q () { s with heap := h', toks := s.toks + 1 }) : wpAny (model pw W.w) c.A (storeName c.env x v) Q E s := by
  obtain ⟨m, cells, F, l, ⟨q1, q2, t1, t2, off, N⟩, G⟩ := a.ex
  exact storeX_L F N (fun h' F' N' => h _ ⟨a.ok, a.sub, _, cells, F', locals_set l hx hv, ⟨q1, q2, t1, t2, off, N'⟩, G⟩) a.ok.kind hx
theorem LisP.lis {o : Obj} {vs : List Value} (h : LisP o vs) : LisO o vs := ⟨h.1, h.2.2⟩
theorem skip_one {x y : Str} {pv : PV} {vars : Vars} (hn : vars.lookup x = none) {py : PV} (h : vars.lookup y = some py) : List.lookup y ((x, pv) :: vars) = some py := by
  rw [List.lookup_cons]
  cases q : y == x with
  | true => rw [eq_of_beq q, hn] at h; cases h
  | false => exact h
set_option maxHeartbeats 2000000 in
theorem b_first {name qual : Str} {params : Arguments} {scope : Scope} {dV kV doc pm cd ct oc : Value} {an od : Option Addr} {osl : Array (Option Value)} {b6 : List Stmt} {ns : List Int} {x : Int} {k : Str} {many : Nat} {told : Addr} {lo0 : Obj} {rest : List Stmt} {N : Vars → Led → Prop}
    {pi p1 p2 p3 p4 p5 pf pr px q1 q2 q3 q4 q5 q6 q7 q8 q9 q10 q11 q12 q13 q14 q15 q16 q17 : Pos}
    (ho : (hd.heap_39 W.w.params).lookup 108 = some ⟨oc, od, .func (fnOf name qual params (b6 ++ [.For (.Name "i" pi) (.Name "ranged" pr) (yBody p1 p2 p3 p4 p5) [] pf]) scope dV kV doc pm an cd ct), osl⟩) (hcd : codeIn (hd.heap_39 W.w.params) cd qual = true)
    (hbind : ∀ s vs, (hd.heap_39 W.w.params).In s.heap → AllIs [.int x, .str k] vs → BindsTo s (fnOf name qual params (b6 ++ [.For (.Name "i" pi) (.Name "ranged" pr) (yBody p1 p2 p3 p4 p5) [] pf]) scope dV kV doc pm an cd ct) ⟨vs, []⟩ ((["number", "name"] : List Str).zip vs))
    (hk : scope.kind = .function) (hco : scope.isCoroutine = false) (hgen : scope.isGenerator = true) (hcell : ∀ y ∈ scope.names, y.2 ≠ .cell) (hi : scope.names.lookup ("i" : Str) = some .local) (hfc : scope.names.lookup ("_tzolkin_from_count" : Str) = some .globalImplicit) (hloc : ∀ y ∈ (["number", "name"] : List Str), scope.names.lookup y = some .local)
    (hb : ∀ cg : Cx, cg.cs = scope → cg.relE = (fun _ => False) → cg.Room 7 → Bd W cg [("number", .int x), ("name", .str k)] cg.led₀ b6 fun v' l' => ∃ Rg lo vals, List.lookup ("ranged" : Str) v' = some (PV.ref Rg) ∧ (Rg, lo) ∈ l' ∧ LisO lo vals ∧ IntsAre vals ns ∧ ∀ p ∈ cg.led₀, p.1 < Rg)
    (hno : c.relE = fun _ => False) (room : c.Room 10) (hlt : ∀ p ∈ c.led₀, p.1 < c.L) (hx1 : c.env.kindOf "one" = some .local) (hkG : c.env.kindOf "tzolkin_generator" = some .globalImplicit) (eG : nsIn (hd.heap_39 W.w.params) mainGlobals "tzolkin_generator" = some (some (.ref 108)))
    (hkL : c.env.kindOf "len" = some .globalImplicit) (eL : nsIn (hd.heap_39 W.w.params) mainGlobals "len" = some none)
    (hv1 : vars.lookup ("number" : Str) = some (.int x)) (hv2 : vars.lookup ("name" : Str) = some (.str k)) (hv3 : vars.lookup ("told" : Str) = some (.ref told)) (hv4 : vars.lookup ("many" : Str) = some (.int many)) (hvo : vars.lookup ("one" : Str) = none)
    (hlo : LisP lo0 []) (hLt : c.L < told) (hmany : many + 1 ≤ ns.length) (hsm : many < 500) (mc : Mc c (.Name "told" q12) "append" q13 q15 [.Name "one" q14])
    (done : ∀ lo tvs T, LisP lo tvs → tvs.length = many → DatAll T tvs (datN ns many) → Bd W c vars ((told, lo) :: (T ++ c.led₀)) rest N) :
    Bd W c vars ((told, lo0) :: c.led₀) (.For (.Name "one" px) (.Call (.Name "tzolkin_generator" q1) [.Name "number" q2, .Name "name" q3] [] q4) [.If (.Compare (.Call (.Name "len" q5) [.Name "told" q6] [] q7) [.Eq] [.Name "many" q8] q9) [.Break q10] [] q11, .Expr (.Call (.Attribute (.Name "told" q12) "append" q13) [.Name "one" q14] [] q15) q16] [] q17 :: rest) N := by
  intro s Q E a dn nx bad
  have triv : ∀ os EE, Bad c os EE := fun os EE X _ _ hX => by rw [hno] at hX; exact hX.elim
  obtain ⟨m0, cells0, F0, l0, NT0, G0⟩ := id a.ex
  refine wpAny_execs_cons (wpAny_For (Call_ (nameX_K F0 a.ok.inK (topRead_of a.ok.top) eG ?_ a.ok.kind hkG (by decide))) (by intro _; rfl))
  refine callWith_def (o := ⟨oc, od, .func (fnOf name qual params (b6 ++ [.For (.Name "i" pi) (.Name "ranged" pr) (yBody p1 p2 p3 p4 p5) [] pf]) scope dV kV doc pm an cd ct), osl⟩) rfl (args_cons (name_ok hv1 rfl a fun v1 hv1' => args_cons (name_ok hv2 rfl a fun v2 hv2' => ?_) (by rfl)) (by rfl)) (by rfl)
  have hvs : AllIs [.int x, .str k] [v1, v2] := ⟨v1, _, rfl, hv1', v2, _, rfl, hv2', rfl⟩
  refine args_nil ⟨a.ok.inK.keeps F0.keep _ _ ho, wpAny_call (codeAny_call_generator (Nat.lt_of_le_of_lt (Nat.le_add_right _ _) room.1) (a.ok.inK.keeps F0.keep _ _ ho) rfl hco hgen rfl (codeRec_of (a.ok.inK.keeps F0.keep) hcd) ?_)⟩
  refine hbind s [v1, v2] (a.ok.inK.keeps F0.keep) hvs _ _ _ _ (wpAny_newFunctionEnv hcell (fun y hy => hloc _ (List.of_mem_zip hy).1) (fun h₁ hns₁ hsb₁ => ⟨((Top.nolimit a.ok.top).keeps F0.keep).fresh _ hsb₁, ?_⟩) hk)
  have ext₁ : ∀ b o, s.heap.get? b = some o → h₁.get? b = some o := fun b o e => hsb₁.extBut b o (Nat.ne_of_lt (Heap.lt_size e)) (Heap.get?_push_of_some _ e)
  have sz₁ : h₁.objs.size = s.heap.objs.size + 1 := by rw [hsb₁.1, Heap.size_push]
  have hL : c.L < s.heap.objs.size := F0.ns.lt
  have h124 : 124 < s.heap.objs.size := by obtain ⟨_, _, _, _, _, e2⟩ := at_tabs a; exact Heap.lt_size e2
  have h95 : 95 < s.heap.objs.size := by obtain ⟨_, _, _, _, e1, _⟩ := at_tabs a; exact Heap.lt_size e1
  have htL : told < s.heap.objs.size := at_lt a (.head _)
  have kp2 : ∀ (o : Obj) b y, h₁.get? b = some y → (h₁.push o).get? b = some y := fun o b y e => Heap.get?_push_of_some _ e
  generalize hLg : s.heap.objs.size = Lg at *
  obtain ⟨oL, ep, epn, hoL, hdL, hkL', hfL⟩ := id hns₁
  refine wpAny_pyIter_gen (g := s.gens.size) ⟨_, _, _, Heap.get?_push_size _ rfl, rfl, rfl, rfl⟩ ?_
  show codeAny (model pw W.w) c.A (.forLoop _ (.ref h₁.objs.size) _ _ _) _ { s with heap := h₁.push { cls := .type "generator", data := .fields #[.int s.gens.size 0, .str name (s.toks + 2), .str qual (s.toks + 2 + 1)] }, gens := s.gens.push (.fresh (.func (b6 ++ [.For (.Name "i" pi) (.Name "ranged" pr) (yBody p1 p2 p3 p4 p5) [] pf]) (envX qual scope Lg 108 cd []))), toks := s.toks + 2 + 1 + 1 }
  have ga_lt : Lg < h₁.objs.size := by rw [sz₁]; exact Nat.lt_succ_self _
  have a1 : At W c vars ((told, lo0) :: c.led₀) { s with heap := h₁.push { cls := .type "generator", data := .fields #[.int s.gens.size 0, .str name (s.toks + 2), .str qual (s.toks + 2 + 1)] }, gens := s.gens.push (.fresh (.func (b6 ++ [.For (.Name "i" pi) (.Name "ranged" pr) (yBody p1 p2 p3 p4 p5) [] pf]) (envX qual scope Lg 108 cd []))), toks := s.toks + 2 + 1 + 1 } := at_grow a (fun b o e => kp2 _ _ _ (ext₁ b o e)) (G0.push rfl)
  have a2 := at_add (I := Lg) (o := oL) a1 (kp2 _ _ _ hoL) (Nat.ne_of_gt hL) (none_above a hL) ⟨Nat.ne_of_gt h95, Nat.ne_of_gt h124⟩
  have a3 := at_add (I := h₁.objs.size) a2 (Heap.get?_push_size _ rfl) (Nat.ne_of_gt (Nat.lt_trans hL ga_lt)) (none_above a (Nat.lt_trans hL ga_lt)) ⟨Nat.ne_of_gt (Nat.lt_trans h95 ga_lt), Nat.ne_of_gt (Nat.lt_trans h124 ga_lt)⟩
  generalize hgO : ({ cls := .type "generator", data := .fields #[.int s.gens.size 0, .str name (s.toks + 2), .str qual (s.toks + 2 + 1)] } : Obj) = gO at a1 a2 a3 ⊢
  have hg1 : gO.cls = .type "generator" := by rw [← hgO]
  have hg2 : ∀ h : Heap, h.get? h₁.objs.size = some gO → h.IsGen h₁.objs.size s.gens.size := fun h e => by rw [← hgO] at e; exact ⟨_, _, _, e, rfl, rfl, rfl⟩
  generalize hga : h₁.objs.size = ga at *
  refine codeAny_forLoop (I := fun kk s' => ∃ (j : Nat) (T : Led) (tvs : List Value) (lo go : Obj) (GL : Led), kk = many + 1 - j ∧ j ≤ many ∧ LisP lo tvs ∧ tvs.length = j ∧ DatAll T tvs (datN ns j) ∧ (∀ p ∈ T, p.1 ≠ Lg ∧ p.2.cls = .type "tuple") ∧ go.cls = .type "generator" ∧ (∀ h : Heap, h.get? ga = some go → h.IsGen ga s.gens.size) ∧
    At W c vars (((told, lo) :: (T ++ (ga, go) :: c.led₀)) ++ GL) s' ∧ Phase W c Lg s.gens.size (many + 1) ns j GL s' ∧ s'.os = s.os) (fun kk s' hI => ?_) (many + 1) ⟨0, [], [], lo0, gO, [(Lg, oL), (ga, gO)], rfl, Nat.zero_le _, hlo, rfl, .nil, (fun _ h => nomatch h), hg1, hg2, at_led a3 (fun p hp => ?_) (fun p hp => ?_), ⟨fun p hp => ?_, ⟨oL, .head _, fun u e => by rw [hdL] at e; cases e⟩, _, Array.getElem?_push_size .., fun s'' as hs => ⟨rfl, ?_⟩⟩, rfl⟩
  · obtain ⟨j, T, tvs, lo, go, GL, rfl, hj, hlo, hlen, hD, hT, hgo1, hgo2, aj, ph, osj⟩ := hI
    have hpre : c.pre.length ≤ s.gens.size := by rw [← Array.length_toList]; exact G0.2.length_le
    refine gen_next (R := (told, lo) :: (T ++ (ga, go) :: c.led₀)) (by omega) hlt hL h124 room hpre aj ph (fun p hp => ?_) (fun p hp => .tail _ (List.mem_append_right _ (.tail _ hp))) (hgo2 _ (at_get aj (p := (ga, go)) (by simp)).1) fun t u1 u2 GL' s4 a4 ht ph4 hGL4 os4 => ?_
    · rcases List.mem_cons.mp hp with rfl | hp
      · exact ⟨Nat.ne_of_lt htL, .inl htL⟩
      · rcases List.mem_append.mp hp with hp | hp
        · exact ⟨(hT p hp).1, .inr (by rw [(hT p hp).2]; decide)⟩
        · rcases List.mem_cons.mp hp with rfl | hp
          · exact ⟨Nat.ne_of_gt ga_lt, .inr (by rw [hgo1]; decide)⟩
          · have := hlt p hp
            exact ⟨Nat.ne_of_lt (Nat.lt_trans this hL), .inl (Nat.lt_trans this hL)⟩
    refine assign_Name (st_loc (pv := .ref t) hx1 rfl a4 fun h5 a5 => ?_)
    have mt : ((t, Tup #[.int (fcA (ns.getD j 0)) u1, .str (fcB (ns.getD j 0)) u2]) : Addr × Obj) ∈ (t, Tup #[.int (fcA (ns.getD j 0)) u1, .str (fcB (ns.getD j 0)) u2]) :: ((told, lo) :: (T ++ (ga, go) :: c.led₀) ++ GL') := .head _
    have mo : ((told, lo) : Addr × Obj) ∈ (t, Tup #[.int (fcA (ns.getD j 0)) u1, .str (fcB (ns.getD j 0)) u2]) :: ((told, lo) :: (T ++ (ga, go) :: c.led₀) ++ GL') := .tail _ (.head _)
    have v3 : List.lookup ("told" : Str) (("one", PV.ref t) :: vars) = some (.ref told) := skip_one hvo hv3
    have v4 : List.lookup ("many" : Str) (("one", PV.ref t) :: vars) = some (.int many) := skip_one hvo hv4
    obtain ⟨_, _, F5, _, _, _⟩ := id a5.ex
    refine wpAny_execs_cons (wpAny_If (wpAny_isTrue_Compare1 (Call_ (nameX_B F5 a5.ok.inK (topRead_of a5.ok.top) eL PyProof.Rows.Boot.«len» (by decide) (callWith_builtin1 (args_cons (name_ok v3 rfl a5 fun w hw => ?_) (by rfl)) (by rfl) rfl) a5.ok.kind hkL (by decide)))))
    obtain rfl : w = .ref told := hw
    refine args_nil (Calls.call_len_list (items := tvs.toArray) ⟨lo, (at_get a5 mo).1, hlo.1, hlo.2.2⟩ (by rw [List.size_toArray]; omega) ?_)
    rw [List.size_toArray, hlen]
    refine name_ok v4 rfl ((a5.toks _)) fun w hw => ?_
    obtain ⟨t9, rfl⟩ := hw
    refine PyProof.Rows.eq_int (wpAny_truthy_bool ?_)
    have tne : t ≠ told := fun e => by
      have h1 := (at_get a5 mo).1
      have h2 := (at_get a5 mt).1
      dsimp only at h1 h2
      rw [e, h1] at h2
      have h4 := hlo.1
      rw [Option.some.inj h2] at h4
      exact absurd (show (Value.type "tuple") = .type "list" from h4) (by decide)
    by_cases hjm : j = many
    · rw [show ((j : Int) == (many : Int)) = true by simp [hjm], if_pos rfl]
      refine wpAny_execs_cons (wpAny_Break ?_)
      refine done lo tvs T hlo (hlen.trans hjm) (hjm ▸ hD) _ Q E (at_vars (at_led ((a5.toks _)) (fun p hp => ?_) fun p hp => .tail _ (List.mem_append_right _ hp)) fun y pv hy => skip_one hvo hy) (by rw [show s4.os = s.os from os4.trans osj]; exact dn) (by rw [show s4.os = s.os from os4.trans osj]; exact nx) (triv _ _)
      rcases List.mem_cons.mp hp with rfl | hp
      · exact mo
      · refine .tail _ (List.mem_append_left _ (.tail _ ?_))
        rcases List.mem_append.mp hp with hp | hp
        · exact List.mem_append_left _ hp
        · exact List.mem_append_right _ (.tail _ hp)
    · rw [show ((j : Int) == (many : Int)) = false by simp; omega, if_neg (by decide)]
      refine wpAny_execs_nil ?_
      obtain ⟨pl, hmc⟩ := mc
      have a6 := a5.toks (s4.toks + 1 + 1 + 1)
      have v1' : List.lookup ("one" : Str) (("one", PV.ref t) :: vars) = some (.ref t) := by rw [List.lookup_cons, beq_self_eq_true]
      refine wpAny_execs_cons (wpAny_Expr (MethodCall_ (name_ok v3 rfl ((a5.toks _).toks _) fun w hw => ?_) hmc) (by have := a5.ok.kind; unfold interactive; show (c.cs.kind == .module && _) = false; rw [this]; rfl) (by rfl))
      obtain rfl : w = .ref told := hw
      refine Calls.getMethod_list_append (o := lo) (at_get a5 mo).1 hlo.1 hlo.2.1 ?_
      refine callWith_method1 (args_cons (name_ok v1' rfl ((a5.toks _).toks _) fun w hw => ?_) (by rfl)) (by rfl) (by rfl)
      obtain rfl : w = .ref t := hw
      obtain ⟨hc9, hd9, n9, hdt9⟩ := hlo
      refine args_nil (list_append_plainL ⟨lo, n9, (at_get a5 mo).1, hc9, hd9, hdt9⟩ (fun h6 hp6 hs6 => ?_) (by rw [List.size_toArray]; have := sizeLine_big; omega))
      obtain ⟨lo', n', hget', hc', hd', hdt'⟩ := hp6
      refine wpAny_execs_nil ?_
      have tT : ∀ p ∈ ((t, Tup #[.int (fcA (ns.getD j 0)) u1, .str (fcB (ns.getD j 0)) u2]) :: T ++ (ga, go) :: c.led₀) ++ GL', p.1 ≠ told := fun p hp => by
        rcases List.mem_append.mp hp with hp | hp
        · rcases List.mem_append.mp hp with hp | hp
          · rcases List.mem_cons.mp hp with rfl | hp
            · exact tne
            · intro e
              have h1 := (at_get a5 mo).1
              have h2 := (at_get a5 (p := p) (.tail _ (List.mem_append_left _ (.tail _ (List.mem_append_left _ hp))))).1
              dsimp only at h1 h2
              rw [e, h1] at h2
              have h4 := (hT p hp).2
              rw [← Option.some.inj h2, hc9] at h4
              exact absurd h4 (by decide)
          · rcases List.mem_cons.mp hp with rfl | hp
            · exact Nat.ne_of_gt (Nat.lt_trans htL ga_lt)
            · exact Nat.ne_of_lt (Nat.lt_trans (hlt p hp) hLt)
        · exact Nat.ne_of_gt (Nat.lt_of_lt_of_le htL (hGL4 p hp))
      have a7 := at_led (led' := (told, lo) :: (((t, Tup #[.int (fcA (ns.getD j 0)) u1, .str (fcB (ns.getD j 0)) u2]) :: T ++ (ga, go) :: c.led₀) ++ GL')) a5 (fun p hp => by
        simp only [List.mem_cons, List.mem_append, List.cons_append] at hp ⊢
        rcases hp with h | h | (h | h | h) | h <;> simp [h]) (fun p hp => by simp [hp])
      refine ⟨many + 1 - (j + 1), by omega, j + 1, (t, Tup #[.int (fcA (ns.getD j 0)) u1, .str (fcB (ns.getD j 0)) u2]) :: T, tvs ++ [.ref t], lo', go, GL', rfl, by omega, ⟨hc', hd', n', by rw [hdt', List.push_toArray]⟩, by rw [List.length_append, hlen]; rfl, ?_, ?_, hgo1, hgo2, ?_, (ph4 (by omega)).on rfl, os4.trans osj⟩
      · rw [datN_succ]
        exact datAll_snoc (hD.mono fun p hp => .tail _ hp) (.tuple (vs := [_, _]) (.head _) (.cons (.int _ _) (.cons (.str _ _) .nil)))
      · exact List.forall_mem_cons.mpr ⟨⟨ht, rfl⟩, hT⟩
      · exact at_vars (at_upd (I := told) a7 (fun u e => by rw [hdt9] at e; cases e) tT (fun p hp => List.mem_append_left _ (List.mem_append_right _ (.tail _ hp))) (fun b y hb e => (hs6.2 b hb).trans e) hget' (by have h9 := at_gens a5; exact h9)) fun y pv hy => skip_one hvo hy
  · simp only [List.mem_cons, List.mem_append, List.not_mem_nil, or_false, false_or, List.nil_append] at hp ⊢
    rcases hp with (h | h | h) | h | h <;> simp [h]
  · simp [hp]
  · simp only [List.mem_cons, List.not_mem_nil, or_false] at hp
    rcases hp with rfl | rfl
    · exact Nat.le_refl _
    · exact Nat.le_of_lt ga_lt
  · refine gen_seg hk hco hi hfc room hlt hL h124 hmany as (hns₁.at' fun o e => ?_) ⟨gO, hs (ga, gO) (.tail _ (.head _))⟩ ga_lt (fun y pv hy => ?_) hb
    · rw [hoL] at e; cases e; exact hs (Lg, oL) (.head _)
    · obtain ⟨v, hv, hi'⟩ := zip_is (names := ["number", "name"]) hvs hy
      exact ⟨hloc y (List.of_mem_zip (mem_look hv)).1, v, lookup_rev (by decide) hv, hi'⟩
end
end Mine
set_option maxRecDepth 100000
namespace Mine
section
variable {W : Wd} {c : Cx} {vars : Vars} {led : Led} {Φ : PV → Led → Prop}
theorem x_nil {p : Pos} (h : ∀ t, c.L < t → Φ (.ref t) ((t, listOf #[] 0) :: led)) : Wx W c vars led (.List [] p) Φ := by
  intro s Q E a q bad
  obtain ⟨_, _, F, _, _, _⟩ := id a.ex
  refine List_ (args_nil (wpAny_newList (q _ _ _ _ (h s.heap.objs.size F.ns.lt) rfl (at_push a rfl) rfl) ?_))
  show 0 ≤ sizeLine
  omega
end
theorem tn_len : ∀ i : Fin 20, 0 < (TN (i.val : Int)).length ∧ (TN (i.val : Int)).length < 1000 := by simp only [TN_eq]; decide +kernel
def rngs (q : Int) : List Int := List.map (fun (i : Nat) => (q + 1) + (i : Int)) (List.range (259 - q).toNat) ++ List.map (fun (i : Nat) => 1 + (i : Int)) (List.range q.toNat)
theorem rngs_len {q : Int} (h0 : 0 ≤ q) (h1 : q < 260) : (rngs q).length = 259 := by
  unfold rngs
  rw [List.length_append, List.length_map, List.length_map, List.length_range, List.length_range]
  omega
theorem intsAre_app : ∀ {vs ws : List Value} {xs ys : List Int}, IntsAre vs xs → IntsAre ws ys → IntsAre (vs ++ ws) (xs ++ ys)
  | _, _, _, _, .nil, h => h
  | _, _, _, _, .cons n t h, h2 => .cons n t (intsAre_app h h2)
def FoP (q : Int) (many : Nat) (pv : PV) (own : Led) : Prop := ∃ told lo tvs T, pv = .ref told ∧ own = (told, lo) :: T ∧ LisP lo tvs ∧ DatAll T tvs (datN (rngs q) many)
set_option maxHeartbeats 1000000 in
theorem f_first_of {W : Wd} (q : Int) (many : Nat) (h0 : 0 ≤ q) (h1 : q < 260) (h2 : many < 259) : Fn W 199 11 [.int (q % 13 + 1), .str (TN (q % 20)), .int many] [] (FoP q many) (fun _ => False) := by
  have hm := tn_mem (i := q % 20) (by omega) (by omega)
  have hl := tn_len ⟨(q % 20).toNat, by omega⟩
  rw [show ((((⟨(q % 20).toNat, by omega⟩ : Fin 20)).val : Nat) : Int) = q % 20 by show (((q % 20).toNat : Nat) : Int) = _; omega] at hl
  refine fn_enterC (names := ["number", "name", "many"]) (cn := []) rfl rfl (by rintro s _ ⟨v1, _, rfl, h1, v2, _, rfl, h2, v3, _, rfl, h3, rfl⟩; exact BindsTo.of_eq rfl) ?_ (by decide) (fun n _ h => nomatch h) (hnd := fun _ => List.nodup_nil)
  intro c hcs hcl hccd hpost hrelE room hreq hlt
  refine b_assign (kind_of hcs rfl) (x_nil fun told hLt => ?_)
  refine b_first (b6 := [_, _, _, _, _, _]) (ns := rngs q) (x := q % 13 + 1) (k := TN (q % 20)) (many := many) rfl rfl (by rintro s _ hK ⟨v1, _, rfl, h1, v2, _, rfl, h2, rfl⟩; exact binds_K hK rfl (by k_is) rfl rfl rfl) rfl rfl rfl (by decide) rfl rfl (by decide) (fun cg hcg hrg rg => ?_) hrelE room hlt (kind_of hcs rfl) (kind_of hcs rfl) (by k_is) (kind_of hcs rfl) (by k_is) rfl rfl rfl rfl rfl ⟨rfl, rfl, 0, rfl⟩ hLt (by rw [rngs_len h0 h1]; omega) (by omega) (by cases c; cases hcs; exact ⟨_, rfl⟩) (fun lo tvs T g1 g2 g3 => ?_)
  · refine b_assign (kind_of hcg rfl) (x_or (Pe.name rfl rfl) (.inl ⟨_, rfl, by omega⟩) ?_)
    refine b_assign (kind_of hcg rfl) (x_or (Pe.name rfl rfl) (.inr ⟨_, rfl, hl.1, hl.2⟩) ?_)
    refine b_if (t_cmp (x_pure (Pe.name rfl rfl) (x_pure Pe.int ⟨_, cp_gt _ _, fun ht => absurd (of_decide_eq_true ht) (by omega), fun _ => b_nil ?_⟩)))
    refine' b_glob (x := "TZOLKIN") (pv := .ref 30) ?za1 ?zb1 ?zc1; (case za1 => k_is); (case zc1 => exact rfl); case' zb1 => skip
    refine b_if (t_cmp (x_pure (Pe.name rfl rfl) (x_pure (Pe.name rfl rfl) ⟨_, cp_notin30 hm.1, (fun h => nomatch h), fun _ => b_nil ?_⟩)))
    refine b_assign (kind_of hcg rfl) (x_fn (f_tz_count (q % 13 + 1) (TN (q % 20)) hm.2) (by k_is) (rg.mono (by decide)) (fun X h => ?_) (a_pure (Pe.name rfl rfl) (a_pure (Pe.name rfl rfl) (a_nil ⟨rfl, (fun _ h => nomatch h), ?_⟩))))
    · rcases h with ⟨_, h⟩ | ⟨_, _, _, h⟩
      · omega
      · exact absurd hm.1 h
    rintro _ _ ⟨rfl, a1, a2, i, j, b1, b2, b3, b4, b5, b6, b7, rfl⟩
    obtain rfl := tn_inj (by omega) (by omega) b1 b2 b3
    obtain rfl := tz_day (i := 0) h0 h1 b4 b5 b6 b7
    refine b_assign (kind_of hcg rfl) (x_lcat (x_lrange (n := (259 - q).toNat) (by k_is) (by k_is) (kind_of hcg rfl) (kind_of hcg rfl) (Pe.name rfl rfl) Pe.int (by omega) (by omega) (by omega) fun t1 o1 vs1 l1 g1 i1 => ?_))
    refine x_lrange (n := q.toNat) (by k_is) (by k_is) (kind_of hcg rfl) (kind_of hcg rfl) Pe.int (Pe.name rfl rfl) (by omega) (by omega) (by omega) fun t2 o2 vs2 l2 g2 i2 => ?_
    have n1 := intsAre_len i1
    have n2 := intsAre_len i2
    rw [List.length_map, List.length_range] at n1 n2
    refine ⟨t1, t2, o1, o2, vs1, vs2, rfl, rfl, .tail _ (.head _), .head _, g1, g2, by omega, fun r o l3 g3 => b_nil ?_⟩
    exact ⟨r, o, vs1 ++ vs2, rfl, .head _, g3, intsAre_app i1 i2, fun p hp => l3 p (.tail _ (.tail _ hp))⟩
  · exact b_return (x_pure (Pe.name rfl rfl) (ends_of hpost (own := (told, lo) :: T) ⟨told, lo, tvs, T, rfl, rfl, g1, g3⟩ fun p hp => hp))
end Mine
set_option maxRecDepth 100000
namespace Mine
section
variable {W : Wd} {c : Cx} {vars : Vars} {led : Led} {Φ : PV → Led → Prop}
theorem t_orc {x : Expr} {rest : List Expr} {p : Pos} {Ψ : Bool → Led → Prop} (h : Tx W c vars led x fun b l => (b = true → Ψ true l) ∧ (b = false → Tx W c vars l (.BoolOp .Or rest p) Ψ)) : Tx W c vars led (.BoolOp .Or (x :: rest) p) Ψ := by
  intro s Q E a q bad
  refine isTrue_or (h s _ _ a (fun b l s1 hb a1 os1 => ?_) bad)
  cases b with
  | true => exact q true l s1 (hb.1 rfl) a1 os1
  | false => exact hb.2 rfl s1 _ _ a1 (fun b2 l2 s2 hb2 a2 os2 => q b2 l2 s2 hb2 a2 (os2.trans os1)) (by rw [os1]; exact bad)
theorem t_orn {p : Pos} {Ψ : Bool → Led → Prop} (h : Ψ false led) : Tx W c vars led (.BoolOp .Or [] p) Ψ := fun s _ _ a q _ => isTrue_or_nil (q false led s h a rfl)
theorem t_andc {x : Expr} {rest : List Expr} {p : Pos} {Ψ : Bool → Led → Prop} (h : Tx W c vars led x fun b l => (b = false → Ψ false l) ∧ (b = true → Tx W c vars l (.BoolOp .And rest p) Ψ)) : Tx W c vars led (.BoolOp .And (x :: rest) p) Ψ := by
  intro s Q E a q bad
  refine isTrue_and (h s _ _ a (fun b l s1 hb a1 os1 => ?_) bad)
  cases b with
  | false => exact q false l s1 (hb.1 rfl) a1 os1
  | true => exact hb.2 rfl s1 _ _ a1 (fun b2 l2 s2 hb2 a2 os2 => q b2 l2 s2 hb2 a2 (os2.trans os1)) (by rw [os1]; exact bad)
theorem t_andn {p : Pos} {Ψ : Bool → Led → Prop} (h : Ψ true led) : Tx W c vars led (.BoolOp .And [] p) Ψ := fun s _ _ a q _ => isTrue_and_nil (q true led s h a rfl)
/-- a comparison as a value -/
theorem x_cmp {a b : Expr} {op : CmpOp} {p : Pos} (h : Wx W c vars led a fun pa l1 => Wx W c vars l1 b fun pb l2 => ∃ r, Cp W c l2 op pa pb r ∧ Φ (.bool r) l2) (hm : behindInMarks op b = false := by with_unfolding_all rfl) : Wx W c vars led (.Compare a [op] [b] p) Φ := by
  intro s Q E at_ q bad
  refine wpAny_Compare1 (h s _ _ at_ (fun v pv led' s' hw hv at' os' => ?_) bad) hm
  refine hw s' _ _ at' (fun v2 pv2 led2 s2 h2 hv2 at2 os2 => ?_) (fun X e s3 r1 r2 r3 => bad X e s3 r1 r2 (r3.trans os'))
  obtain ⟨r, hc, hΦ⟩ := h2
  exact hc s2 _ _ v v2 vars at2 hv hv2 (q _ (.bool r) led2 s2 hΦ rfl at2 (os2.trans os'))
theorem cp_eq_str' (x y : Str) : Cp W c led .Eq (.str x) (.str y) (x == y) := cp_eq_str x y
theorem cp_is_int (i : Int) : Cp W c led .Is (.int i) .none false := by
  rintro s Q E _ _ vars _ ⟨t, rfl⟩ rfl q; exact is_int_none q
theorem cp_is_none : Cp W c led .Is .none .none true := by
  rintro s Q E _ _ vars _ rfl rfl q; exact wpAny_is_self rfl q
/-- two tuples of the same data -/
theorem cp_ne_same {t u : Addr} {d : Dat} {n1 n2 : Led} (ht : DatIn n1 (.ref t) d) (hu : DatIn n2 (.ref u) d) (s1 : ∀ p ∈ n1, p ∈ led) (s2 : ∀ p ∈ n2, p ∈ led) (hok : kqdOk 9 d = true) (hr : c.un + 64 < cLine) : Cp W c led .NotEq (.ref t) (.ref u) false := by
  rintro s Q E _ _ vars a rfl rfl q
  obtain ⟨m, cells, F, l, ⟨q1, q2, u1, u2, off, N⟩, G⟩ := a.ex
  have inN : ∀ p ∈ led, p ∈ T2 q1 q2 (cells ++ led) := fun p hp => .tail _ (.tail _ (List.mem_append_right _ hp))
  obtain ⟨as, ra⟩ := kqd_in N 9 (ht.mono fun p hp => inN p (s1 p hp)) hok
  obtain ⟨bs, rb⟩ := kqd_in N 9 (hu.mono fun p hp => inN p (s2 p hp)) hok
  have la := kqd_lay 9 d hok
  have sh : SeqAt.shaped (kqdP d) = true := by unfold SeqAt.shaped; rw [la.1, Bool.true_and]; exact decide_eq_true (Nat.le_trans la.2 (by decide))
  refine ne_dataH ra rb sh sh hr ?_
  rw [(kqd_eqv 9 d d 9 hok hok).mpr rfl]
  exact q
/-- two lists of the same data -/
theorem cp_ne_lists {t u : Addr} {o1 o2 : Obj} {vs ws : List Value} {ds : List Dat} {n1 n2 : Led} (m1 : (t, o1) ∈ led) (m2 : (u, o2) ∈ led) (l1 : LisO o1 vs) (l2 : LisO o2 ws) (h1 : DatAll n1 vs ds) (h2 : DatAll n2 ws ds) (s1 : ∀ p ∈ n1, p ∈ led) (s2 : ∀ p ∈ n2, p ∈ led)
    (hok : ∀ d ∈ ds, kqdOk 8 d = true) (hr : c.un + 64 < cLine) : Cp W c led .NotEq (.ref t) (.ref u) false := by
  rintro s Q E _ _ vars a rfl rfl q
  obtain ⟨m, cells, F, l, ⟨q1, q2, u1, u2, off, N⟩, G⟩ := a.ex
  have inN : ∀ p ∈ led, p ∈ T2 q1 q2 (cells ++ led) := fun p hp => .tail _ (.tail _ (List.mem_append_right _ hp))
  obtain ⟨c1, k1, d1⟩ := l1
  obtain ⟨c2, k2, d2⟩ := l2
  refine kqd_ne N (inN _ m1) c1 d1 h1 (fun p hp => inN p (s1 p hp)) (inN _ m2) c2 d2 h2 (fun p hp => inN p (s2 p hp)) hok hok hr ?_
  simpa using q
/-- two texts put together -/
theorem x_scat {a b : Expr} {p : Pos} (h : Wx W c vars led a fun pa l1 => Wx W c vars l1 b fun pb l2 => ∃ x y, pa = .str x ∧ pb = .str y ∧ x.length + y.length < 1000 ∧ Φ (.str (x ++ y)) l2) : Wx W c vars led (.BinOp a .Add b p) Φ := by
  intro s Q E at_ q bad
  refine wpAny_BinOp (h s _ _ at_ (fun v pv led' s' hw hv at' os' => ?_) bad)
  refine hw s' _ _ at' (fun v2 pv2 led2 s2 h2 hv2 at2 os2 => ?_) (fun X e s3 r1 r2 r3 => bad X e s3 r1 r2 (r3.trans os'))
  obtain ⟨x, y, rfl, rfl, hl, hΦ⟩ := h2
  obtain ⟨t, rfl⟩ := hv
  obtain ⟨u, rfl⟩ := hv2
  have := sizeLine_big
  exact PyProof.Rows.add_str (fun t' tk => q _ (.str (x ++ y)) led2 _ hΦ ⟨_, rfl⟩ (at2.toks tk) (os2.trans os')) (by omega)
theorem g_str (i : Int) (h0 : 0 ≤ i) (h1 : i < 100) : Gv W c (.type "str") [.int i] (.str (Str.ofString (toString i))) := by
  rintro s Q E _ ⟨_, _, rfl, ⟨t, rfl⟩, rfl⟩ q
  have : i.natAbs.log2 < 7 := Nat.lt_of_not_le fun hc => by
    have := (Nat.le_log2 (by intro e; rw [e] at hc; simp at hc)).mp hc
    omega
  exact PySem.P.str_of_int (by omega) (q _ _ ⟨_, rfl⟩)
/-- an item of a pair of the ledger -/
theorem x_pair {b : Expr} {k : Nat} {kk : Nat} {p p' : Pos} (h : Wx W c vars led b fun pb l => ∃ t vs v pv, pb = .ref t ∧ (t, Tup vs) ∈ l ∧ k < 100 ∧ vs[k]? = some v ∧ PV.Is pv v ∧ Φ pv l)
    (hs : ∀ t u, subscripted (.Constant (.int (k : Nat)) kk p') false (.ref t) (.int k u) = operate [.ref t, .int k u] (getItem (.ref t) (.int k u)) := by intro _ _; with_unfolding_all rfl) : Wx W c vars led (.Subscript b (.Constant (.int (k : Nat)) kk p') p) Φ := by
  intro s Q E a q bad
  refine Subscript_ (h s _ _ a (fun v pv l1 s1 hw hv a1 os1 => ?_) bad)
  obtain ⟨t, vs, w, pw', rfl, hm, hk, hgt, hi, hΦ⟩ := hw
  obtain rfl : v = .ref t := hv
  refine wpAny_Constant_int ?_
  have hT : IsTup s1.heap t vs := ⟨_, (at_get a1 hm).1, rfl, _, rfl⟩
  have hlt : k < vs.size := (Array.getElem?_eq_some_iff.mp hgt).1
  exact tail_any (s := { s1 with toks := s1.toks + 1 }) ⟨_, (at_get a1 hm).1, rfl⟩ PySem.F.slot_tuple_getitem.lookup (getItem_tuple (s := { s1 with toks := s1.toks + 1 }) hT (by omega) (by omega) (j := k) (by unfold seqIndex?; simp; omega) hgt (q _ _ _ _ hΦ hi (a1.toks _) os1)) (hs _ _)
end
section
variable {W : Wd} {c : Cx} {vars : Vars} {led : Led} {Φ : PV → Led → Prop}
/-- `a, b, c, d, e = ..` -/
theorem b_unpack5 {x1 x2 x3 x4 x5 : Str} {e : Expr} {k : Nat} {p1 p2 p3 p4 p5 tp p : Pos} {rest : List Stmt} {N : Vars → Led → Prop} (h1 : c.env.kindOf x1 = some .local) (h2 : c.env.kindOf x2 = some .local) (h3 : c.env.kindOf x3 = some .local) (h4 : c.env.kindOf x4 = some .local) (h5 : c.env.kindOf x5 = some .local)
    (h : Wx W c vars led e fun pv l => ∃ t vs q1 q2 q3 q4 q5, pv = .ref t ∧ (t, Tup vs.toArray) ∈ l ∧ AllIs [q1, q2, q3, q4, q5] vs ∧ Bd W c ((x5, q5) :: (x4, q4) :: (x3, q3) :: (x2, q2) :: (x1, q1) :: vars) l rest N)
    (hs : swapsWithSole [.Tuple [.Name x1 p1, .Name x2 p2, .Name x3 p3, .Name x4 p4, .Name x5 p5] k tp] e p.line c.env = pure false := by rfl) (hw : swappedStores [.Tuple [.Name x1 p1, .Name x2 p2, .Name x3 p3, .Name x4 p4, .Name x5 p5] k tp] e c.env = pure none := by rfl) :
    Bd W c vars led (.Assign [.Tuple [.Name x1 p1, .Name x2 p2, .Name x3 p3, .Name x4 p4, .Name x5 p5] k tp] e p :: rest) N := by
  intro s Q E a dn nx bad
  refine wpAny_execs_cons (Assign_Tuple (h s _ _ a (fun v pv l s1 hw' hv a1 os1 => ?_) bad) hs hw)
  obtain ⟨t, vs, q1, q2, q3, q4, q5, rfl, hm, hA, hB⟩ := hw'
  obtain ⟨v1, _, rfl, i1, v2, _, rfl, i2, v3, _, rfl, i3, v4, _, rfl, i4, v5, _, rfl, i5, rfl⟩ := hA
  obtain rfl : v = .ref t := hv
  have hT : IsTup s1.heap t #[v1, v2, v3, v4, v5] := ⟨_, (at_get a1 hm).1, rfl, _, rfl⟩
  rw [assign_Tuple]
  refine wpAny_bind (wpAny_standAt ?_)
  refine unpack_tuple rfl hT rfl rfl fun h' hx' => ?_
  have a2 : At W c vars l { s1 with heap := h' } := at_grow a1 (fun b o e => hx' b o (Nat.ne_of_lt (Heap.lt_size e)) e) (show GP c.pre s1.gens from at_gens a1)
  show wpAny (model pw W.w) c.A (do holding [v2, v3, v4, v5] (assign (.Name x1 p1) c.env v1); do holding [v3, v4, v5] (assign (.Name x2 p2) c.env v2); do holding [v4, v5] (assign (.Name x3 p3) c.env v3); do holding [v5] (assign (.Name x4 p4) c.env v4); do holding [] (assign (.Name x5 p5) c.env v5); pure ()) _ E _
  refine wpAny_bind (wpAny_holding (assign_Name (st_local h1 i1 a2 fun s3 a3 os3 => ?_)))
  refine wpAny_bind (wpAny_holding (assign_Name (st_local h2 i2 a3 fun s4 a4 os4 => ?_)))
  refine wpAny_bind (wpAny_holding (assign_Name (st_local h3 i3 a4 fun s5 a5 os5 => ?_)))
  refine wpAny_bind (wpAny_holding (assign_Name (st_local h4 i4 a5 fun s6 a6 os6 => ?_)))
  refine wpAny_bind (wpAny_holding (assign_Name (st_local h5 i5 a6 fun s7 a7 os7 => ?_)))
  have e4 : s7.os = s.os := (os7.trans (os6.trans (os5.trans (os4.trans os3)))).trans os1
  exact wpAny_pure (hB s7 Q E a7 (by rw [e4]; exact dn) (by rw [e4]; exact nx) (by rw [e4]; exact bad))
/-- `list.index` of a list of texts, the text stands in it -/
theorem x_index {o arg : Expr} {p1 p2 : Pos} (mc : Mc c o "index" p1 p2 [arg]) (h : Wx W c vars led o fun pv l => ∃ t ob vs ys, pv = .ref t ∧ (t, ob) ∈ l ∧ ob = listOf vs.toArray 0 ∧ StrsAre vs ys ∧ ys.length < 100 ∧ Wx W c vars l arg fun pk l2 => (t, ob) ∈ l2 ∧ ∃ k, pk = .str k ∧ (reprText k).length ≤ 100 ∧ ys.idxOf k < ys.length ∧ Φ (.int (ys.idxOf k : Nat)) l2)
    (he : starEach [arg] c.env = [(false, eval arg c.env)] := by rfl) : Wx W c vars led (.Call (.Attribute o "index" p1) [arg] [] p2) Φ := by
  intro s Q E a q bad
  obtain ⟨pl, hmc⟩ := mc
  refine MethodCall_ (h s _ _ a (fun v pv l s1 hw hv a1 os1 => ?_) bad) hmc
  obtain ⟨t, ob, vs, ys, rfl, hm, rfl, hst, hl, hw⟩ := hw
  obtain rfl : v = .ref t := hv
  have g1 := (at_get a1 hm).1
  refine getMethod_builtin ⟨_, g1, rfl⟩ PySem.F.plainAttrs_list PySem.F.slot_list_index PySem.F.type_list_index (fun a q => by cases q; exact ⟨_, g1, rfl⟩) ?_
  refine callWith_method1 (args_cons (hw s1 _ _ a1 (fun v2 pv2 l2 s2 hw2 hv2 a2 os2 => ?_) (by rw [os1]; exact bad)) he) he rfl
  obtain ⟨hm2, k, rfl, hk, hlt, hΦ⟩ := hw2
  obtain ⟨u, rfl⟩ := hv2
  refine args_nil ?_
  have := sizeLine_big
  exact index_strs rfl ⟨_, (at_get a2 hm2).1, rfl, _, rfl⟩ hst (by omega) (by omega) (fun _ => q _ _ l2 _ hΦ ⟨_, rfl⟩ (a2.toks _) (os2.trans os1)) (fun hn => absurd (List.idxOf_lt_length_iff.mp hlt) hn)
end
end Mine
set_option maxRecDepth 100000
namespace Mine
section
variable {W : Wd} {c : Cx} {vars : Vars} {led : Led} {Φ : PV → Led → Prop}
/-- the pairs a i, b i for i < n -/
def pairN (a : Nat → Int) (b : Nat → Str) (n : Nat) : List Dat := (List.range n).map fun i => .tuple [.int (a i), .str (b i)]
theorem pairN_succ (a : Nat → Int) (b : Nat → Str) (n : Nat) : pairN a b (n + 1) = pairN a b n ++ [.tuple [.int (a n), .str (b n)]] := by
  unfold pairN
  rw [List.range_succ, List.map_append]; rfl
theorem cls_ne {s : Shared} {p1 p2 : Addr × Obj} (a : At W c vars led s) (h1 : p1 ∈ led) (h2 : p2 ∈ led) (h : p1.2.data ≠ p2.2.data) : p1.1 ≠ p2.1 := fun e => by
  have e1 := (at_get a h1).1
  have e2 := (at_get a h2).1
  rw [e, e2] at e1
  injection e1 with e1
  exact h (congrArg Obj.data e1.symm)
set_option maxHeartbeats 1000000 in
/-- `[f(cell + x) for x in range(e)]`, f gives pairs -/
theorem x_compf {f cnt x : Str} {fa r : Addr} {q : Int} {n k : Nat} {e1 : Expr} {scope : Scope} {ca : Nat → Int} {cb : Nat → Str} {px np p2 p3 p4 p5 p6 p7 pos : Pos} (C : ∀ i : Nat, i < n → Fn W fa k [.int (q + i)] [] (PairP (ca i) (cb i)) (fun _ => False))
    (eF : nsIn (hd.heap_39 W.w.params) mainGlobals f = some (some (.ref fa))) (hr : c.Room k) (eR : nsIn (hd.heap_39 W.w.params) mainGlobals "range" = some none) (hkR : c.env.kindOf "range" = some .globalImplicit)
    (hkD : c.env.kindOf cnt = some .cell) (hcl : c.cl.lookup cnt = some r) (hv : vars.lookup cnt = some (.int q)) (he : Pe vars e1 (.int n)) (hn : n < 1000)
    (hclos : closureFor scope c.env = pure [(cnt, r)]) (hcell : ∀ y ∈ scope.names, y.2 ≠ .cell) (hkind : scope.kind = .function) (hnames : ∀ y ∈ scope.names, y.2 = .local → scope.names.lookup y.1 = some .local) (hx : scope.names.lookup x = some .local)
    (kf : ∀ C, (compEnvC scope [(cnt, r)] C c.env).kindOf f = some .globalImplicit) (kc : ∀ C, (compEnvC scope [(cnt, r)] C c.env).kindOf cnt = some .cell) (kx : ∀ C, (compEnvC scope [(cnt, r)] C c.env).kindOf x = some .local)
    (df : (f == ("__debug__" : Str)) = false) (dc : (cnt == ("__debug__" : Str)) = false) (dx : (x == ("__debug__" : Str)) = false)
    (hfn : ∃ o fd, (hd.heap_39 W.w.params).lookup fa = some o ∧ o.data = .func fd)
    (hΦ : ∀ D o vs T, LisO o vs → DatAll T vs (pairN ca cb n) → Φ (.ref D) ((D, o) :: (T ++ led)))
    (hse : starEach [e1] c.env = [(false, eval e1 c.env)] := by rfl) (hst : (backTo p2 (starEach [] c.env)).any (·.1) = false := by rfl)
    (hfs : ∀ v, foldedSetIterable (.Call (.Name "range" np) [e1] [] p2) c.env v = pure v := by intro _; rfl) :
    Wx W c vars led (.ListComp (.Call (.Name f p3) [.BinOp (.Name cnt p4) .Add (.Name x p5) p6] [] p7) [⟨.Name x px, .Call (.Name "range" np) [e1] [] p2, [], 0⟩] scope pos) Φ := by
  intro s Q E a qk bad
  rw [eval_ListComp]
  obtain ⟨m0, cells0, F0, _, _, _⟩ := id a.ex
  refine wpAny_comprehension_free (use := none) rfl hfs hclos hkind hnames (Call_ (nameX_B F0 a.ok.inK (topRead_of a.ok.top) eR PyProof.Rows.Boot.«range» (by decide) (PyProof.Rows.callWith_type1 (args_cons (pe_ok he a fun v kk hv => ?_) hse) hse hst) a.ok.kind hkR (by decide)))
  obtain ⟨t, rfl⟩ := hv
  refine args_nil (call_range_1 ?_)
  have hrs : Builtin.Range.rangeSize 0 (n : Int) 1 = n := by rw [rangeSize_one]; split <;> omega
  refine wpAny_pyIter_range (IsRange.new _ _ _ _ _ _ _) (small_one (by decide) (by decide) (by omega) (by omega)) ?_
  rw [hrs]
  refine wpAny_newObj_type (wpAny_newFunctionEnv hcell (by intro y hy; simp at hy) (fun h₁ hns₁ hsb₁ => ?_) hkind)
  have a1 := at_push (at_push (at_push (a.toks kk) (o := { cls := .type "range", data := .fields #[.int 0 kk, .int n t, .int 1 (kk + 1)] }) rfl) (o := { cls := .type "range_iterator", data := .fields #[rawInt 0, rawInt n, rawInt 1] }) rfl) (o := LCg.lst []) rfl
  dsimp only at a1 hns₁ hsb₁ ⊢
  generalize hI9 : (s.heap.push { cls := .type "range", data := .fields #[.int 0 kk, .int n t, .int 1 (kk + 1)] }).objs.size = I at a1 hns₁ hsb₁ ⊢
  generalize hH1 : (s.heap.push { cls := .type "range", data := .fields #[.int 0 kk, .int n t, .int 1 (kk + 1)] }).push { cls := .type "range_iterator", data := .fields #[rawInt 0, rawInt n, rawInt 1] } = H1 at a1 hns₁ hsb₁ ⊢
  have hIlt : s.heap.objs.size < I := by rw [← hI9, Heap.size_push]; exact Nat.lt_succ_self _
  have hH1s : H1.objs.size = I + 1 := by rw [← hH1, Heap.size_push, hI9]
  generalize hD9 : H1.objs.size = D at a1 hns₁ hsb₁ ⊢
  rw [hD9] at hH1s
  generalize hH2 : H1.push { cls := .type "list", dict := none, data := .seq ([] : List Value).toArray } = H2 at hns₁ hsb₁ ⊢
  have hH2s : H2.objs.size = D + 1 := by rw [← hH2, Heap.size_push, hD9]
  have old : ∀ b o, H2.get? b = some o → h₁.get? b = some o := fun b o e => hsb₁.extBut b o (Nat.ne_of_lt (Heap.lt_size e)) (Heap.get?_push_of_some _ e)
  obtain ⟨oC, eC, hoC⟩ := LCg.ns_obj hns₁
  generalize hC9 : H2.objs.size = Cc at *
  have hIL : I ∉ ([] : List Nat) := by simp
  have n0 : ∀ p ∈ led, p.1 < I := fun p hp => Nat.lt_trans (Heap.lt_size (at_get a hp).1) hIlt
  have lID : I < D := by rw [hH1s]; exact Nat.lt_succ_self _
  have lDC : D < Cc := by rw [hH2s]; exact Nat.lt_succ_self _
  have hLs : c.L < s.heap.objs.size := F0.ns.lt
  have hLC : c.L < Cc := Nat.lt_trans (Nat.lt_trans hLs hIlt) (Nat.lt_trans lID lDC)
  obtain ⟨tq1, tq2, _, _, te1, te2⟩ := at_tabs a
  have g0 : GP c.pre s.gens := at_gens a
  have a2 : At W c vars ((D, LCg.lst []) :: (I, ritO n 0) :: led) { s with heap := h₁, toks := kk + 1 + 1 + ([] : List (Str × Value)).length } := at_grow (at_led a1 (fun p hp => by
    rcases List.mem_cons.mp hp with rfl | hp
    · exact .head _
    · rcases List.mem_cons.mp hp with rfl | hp
      · rw [ritO_zero]; exact .tail _ (.head _)
      · exact .tail _ (.tail _ (.tail _ hp))) (fun p hp => .tail _ (.tail _ (a.sub p hp)))) (fun b o e => old b o (by rw [← hH2]; exact e)) g0
  have a3 : At W c vars ((I, ritO n 0) :: (Cc, oC) :: (D, LCg.lst []) :: ([] ++ led)) { s with heap := h₁, toks := kk + 1 + 1 + ([] : List (Str × Value)).length } := at_led (at_add (I := Cc) (o := oC) a2 eC (Nat.ne_of_gt hLC) (none_above a hLC) ⟨Nat.ne_of_gt (Nat.lt_trans (Nat.lt_trans (Heap.lt_size te1) hIlt) (Nat.lt_trans lID lDC)), Nat.ne_of_gt (Nat.lt_trans (Nat.lt_trans (Heap.lt_size te2) hIlt) (Nat.lt_trans lID lDC))⟩) (fun p hp => by
    simp only [List.mem_cons, List.nil_append] at hp ⊢
    rcases hp with h | h | h | h
    · exact .inr (.inr (.inl h))
    · exact .inl h
    · exact .inr (.inl h)
    · exact .inr (.inr (.inr h))) (fun p hp => .tail _ (.tail _ (.tail _ (a.sub p hp))))
  have loop : ∀ s₃ : Shared, s₃ = { s with heap := h₁, toks := kk + 1 + 1 + ([] : List (Str × Value)).length } → codeAny (model pw W.w) c.A (.compLoop (.ListComp (.Call (.Name f p3) [.BinOp (.Name cnt p4) .Add (.Name x p5) p6] [] p7) [⟨.Name x px, .Call (.Name "range" np) [e1] [] p2, [], 0⟩] scope pos) 0 (.ref I) (.ref D) (compEnvC scope [(cnt, r)] Cc c.env)) (compPost (model pw W.w) c.A E none Q (.ref D) Cc) s₃ := by
    rintro s₃ rfl
    refine codeAny_compLoop_tests (fun kk' s' => ∃ (i : Nat) (ys : List Value) (T : Led) (oC' : Obj) (m' : Str → Option Value), kk' = n + 1 - i ∧ i ≤ n ∧ ys.length = i ∧ DatAll T ys (pairN ca cb i) ∧ LCg.NsObj oC' m' ∧ At W c vars ((I, ritO n i) :: (Cc, oC') :: (D, LCg.lst ys) :: (T ++ led)) s' ∧ s'.os = s.os ∧ ∀ p ∈ T ++ led, p.1 ≠ I ∧ p.1 ≠ Cc ∧ p.1 ≠ D) (fun kk' s' hi => ?_) (n + 1) ⟨0, [], [], oC, _, rfl, Nat.zero_le _, rfl, .nil, hoC, a3, rfl, fun p hp => ⟨Nat.ne_of_lt (n0 p hp), Nat.ne_of_lt (Nat.lt_trans (n0 p hp) (Nat.lt_trans lID lDC)), Nat.ne_of_lt (Nat.lt_trans (n0 p hp) lID)⟩⟩
    obtain ⟨i, ys, T, oC', m', rfl, hin, hyl, hdat, hoC', ai, osi, hne⟩ := hi
    have hit : IsRangeIter s'.heap I (i : Int) ((n : Int) - i) 1 := (at_get ai (.head _)).1
    have neI : ∀ p ∈ (Cc, oC') :: (D, LCg.lst ys) :: (T ++ led), p.1 ≠ I := List.forall_mem_cons.mpr ⟨Nat.ne_of_gt (Nat.lt_trans lID lDC), List.forall_mem_cons.mpr ⟨Nat.ne_of_gt lID, fun p hp => (hne p hp).1⟩⟩
    have sb : ∀ p ∈ c.led₀, p ∈ T ++ led := fun p hp => List.mem_append_right _ (a.sub p hp)
    by_cases hlt : i < n
    · refine wpAny_pyNext_range_item hit (by omega) fun h' hit' hs' => ?_
      have b1 : At W c vars ((I, ritO n (i + 1)) :: (Cc, oC') :: (D, LCg.lst ys) :: (T ++ led)) { s' with heap := h', toks := s'.toks + 1 } := at_upd ai (by intro u e; cases e) neI (fun p hp => .tail _ (.tail _ (sb p hp))) (fun b y hb e => (hs'.2 b hb).trans e) (by
        have h9 : h'.get? I = _ := hit'
        rw [ritO_succ]
        exact h9) (show GP c.pre s'.gens from at_gens ai)
      refine wpAny_assign_Name (wpAny_storeName_local (kx Cc) (hoC'.ns (C := Cc) (at_get b1 (.tail _ (.head _))).1) (fun h₃ hn₃ hs₃ => ?_) (by simp [compEnvC, relabel, hkind]))
      obtain ⟨oC3, eC3, hoC3⟩ := LCg.ns_obj hn₃
      have b2 : At W c vars ((Cc, oC3) :: (I, ritO n (i + 1)) :: (D, LCg.lst ys) :: (T ++ led)) { s' with heap := h₃, toks := s'.toks + 1 + 1 } := at_upd (o := oC') (at_led b1 (fun p hp => by
          simp only [List.mem_cons] at hp ⊢
          rcases hp with h | h | h
          · exact .inr (.inl h)
          · exact .inl h
          · exact .inr (.inr h)) (fun p hp => .tail _ (.tail _ (.tail _ (sb p hp))))) (by obtain ⟨es, ep, hd9, _⟩ := hoC'; intro u e; rw [hd9] at e; cases e) (List.forall_mem_cons.mpr ⟨Nat.ne_of_lt (Nat.lt_trans lID lDC), List.forall_mem_cons.mpr ⟨Nat.ne_of_lt lDC, fun p hp => (hne p hp).2.1⟩⟩) (fun p hp => .tail _ (.tail _ (sb p hp))) (fun b y hb e => (hs₃.2 b hb).trans e) eC3 (show GP c.pre s'.gens from at_gens ai)
      refine wpAny_tests_nil ?_
      simp only [if_true]
      obtain ⟨m, cells, F, l, ⟨q1, q2, u1, u2, off, N⟩, G⟩ := id b2.ex
      obtain ⟨o, fd, hfo, hod⟩ := hfn
      refine Call_ (Calls.Name_function_global hkind (kf Cc) (Calls.loadGlobal_global (env := compEnvC scope [(cnt, r)] Cc c.env) ((topRead_of a.ok.top).g.keeps F.keep) (mg_of a.ok.inK (topRead_of a.ok.top).g eF) ?_) df)
      rcases l cnt _ hv with ⟨hk, _⟩ | ⟨_, r', oc, ov, hc, hm, hcd9, ⟨v, rfl, tq, rfl⟩ | ⟨h, _⟩⟩ | ⟨hk, _⟩
      · rw [hkD] at hk; cases hk
      · obtain rfl : r' = r := Option.some.inj (hc.symm.trans hcl)
        refine callWith_def hod (args_cons (wpAny_BinOp (wpAny_Name (wpAny_loadName_cell hkind (kc Cc) (by show List.lookup cnt [(cnt, r')] = some r'; rw [List.lookup_cons, beq_self_eq_true]) ⟨oc, (N _ (.tail _ (.tail _ (List.mem_append_left _ hm)))).1, hcd9⟩ (wpAny_Name (wpAny_loadName_local hkind (kx Cc) hn₃ (if_pos rfl) (PyProof.Rows.add_int ?_)) dx)) dc)) (by rfl)) (by rfl)
        refine args_nil ⟨(Frag.In.keeps a.ok.inK F.keep) _ _ hfo, ?_⟩
        have b3 := b2.toks (s'.toks + 1 + 1 + 1)
        obtain ⟨m, cells, F, l, NT, G⟩ := id b3.ex
        refine C i hlt c _ _ m _ _ _ a.ok hr ⟨_, _, rfl, ⟨_, rfl⟩, rfl⟩ F NT G (fun _ h => nomatch h) (fun v pv own s5 hp hvv F5 NT5 G5 os5 => ?_) fun _ _ _ h => h.elim
        obtain ⟨t5, tk5, tk5', rfl, rfl⟩ := hp
        obtain rfl : v = .ref t5 := hvv
        have b4 : At W c vars ((t5, Tup #[.int (ca i) tk5, .str (cb i) tk5']) :: (Cc, oC3) :: (I, ritO n (i + 1)) :: (D, LCg.lst ys) :: (T ++ led)) s5 := ⟨a.ok, fun p hp => .tail _ (b3.sub p hp), m, cells, F5, l, newsT_perm (l := (t5, Tup #[.int (ca i) tk5, .str (cb i) tk5']) :: (cells ++ (Cc, oC3) :: (I, ritO n (i + 1)) :: (D, LCg.lst ys) :: (T ++ led))) NT5 fun p hm => (List.perm_middle.mem_iff).mp hm, G5⟩
        have nI : t5 ≠ I := cls_ne b4 (p1 := (t5, Tup _)) (p2 := (I, ritO n (i + 1))) (.head _) (.tail _ (.tail _ (.head _))) (by intro e; cases e)
        have nC : t5 ≠ Cc := cls_ne b4 (p1 := (t5, Tup _)) (p2 := (Cc, oC3)) (.head _) (.tail _ (.head _)) (by obtain ⟨es, ep, hd9, _⟩ := hoC3; intro e; rw [hd9] at e; cases e)
        have nD : t5 ≠ D := fun e => by
          have e1 := (at_get b4 (p := (t5, Tup #[.int (ca i) tk5, .str (cb i) tk5'])) (.head _)).1
          have e2 := (at_get b4 (p := (D, LCg.lst ys)) (.tail _ (.tail _ (.tail _ (.head _))))).1
          dsimp only at e1 e2
          rw [e, e2] at e1
          injection e1 with e1
          have := congrArg Obj.cls e1
          injection this with this; exact absurd this (by decide)
        have hDg := (at_get b4 (p := (D, LCg.lst ys)) (.tail _ (.tail _ (.tail _ (.head _))))).1
        refine append_at (hsz := by have := sizeLine_big; show ys.toArray.size ≤ sizeLine; rw [List.size_toArray, hyl]; omega) hDg fun h₆ hs₆ hD₆ => ?_
        have b5 : At W c vars ((D, LCg.lst (ys ++ [.ref t5])) :: (t5, Tup #[.int (ca i) tk5, .str (cb i) tk5']) :: (Cc, oC3) :: (I, ritO n (i + 1)) :: (T ++ led)) { s5 with heap := h₆ } := at_upd (o := LCg.lst ys) (at_led b4 (fun p hp => by
          simp only [List.mem_cons] at hp ⊢
          rcases hp with h | h | h | h | h
          · exact .inr (.inr (.inr (.inl h)))
          · exact .inl h
          · exact .inr (.inl h)
          · exact .inr (.inr (.inl h))
          · exact .inr (.inr (.inr (.inr h)))) (fun p hp => .tail _ (.tail _ (.tail _ (.tail _ (sb p hp)))))) (by intro u e; cases e) (List.forall_mem_cons.mpr ⟨nD, List.forall_mem_cons.mpr ⟨Nat.ne_of_gt lDC, List.forall_mem_cons.mpr ⟨Nat.ne_of_lt lID, fun p hp => (hne p hp).2.2⟩⟩⟩) (fun p hp => .tail _ (.tail _ (.tail _ (sb p hp)))) (fun b y hb e => (hs₆.2 b hb).trans e) (by rw [← LCg.lst_snoc]; exact hD₆) G5
        refine ⟨n + 1 - (i + 1), by omega, i + 1, ys ++ [.ref t5], (t5, Tup #[.int (ca i) tk5, .str (cb i) tk5']) :: T, oC3, _, rfl, hlt, by rw [List.length_append, List.length_singleton, hyl], ?_, hoC3, at_led b5 (fun p hp => ?_) (fun p hp => .tail _ (.tail _ (.tail _ (.tail _ (sb p hp))))), os5.trans osi, List.forall_mem_cons.mpr ⟨⟨nI, nC, nD⟩, hne⟩⟩
        · rw [pairN_succ]
          exact datAll_snoc (hdat.mono fun p hp => .tail _ hp) (.tuple (n := 0) (vs := [.int (ca i) tk5, .str (cb i) tk5']) (.head _) (.cons (.int _ _) (.cons (.str _ _) .nil)))
        · simp only [List.mem_cons, List.cons_append] at hp ⊢
          rcases hp with h | h | h | h | h
          · exact .inr (.inr (.inr (.inl h)))
          · exact .inr (.inr (.inl h))
          · exact .inl h
          · exact .inr (.inl h)
          · exact .inr (.inr (.inr (.inr h)))
      · cases h
      · rw [hkD] at hk; cases hk
    · obtain rfl : i = n := by omega
      refine wpAny_pyNext_range_end rfl hit (by omega) fun h' hx' => ?_
      have b1 : At W c vars ((Cc, oC') :: (D, LCg.lst ys) :: (T ++ led)) { s' with heap := h' } := (at_change (s' := { s' with heap := h' }) ai (by intro u e; cases e) neI (fun p hp => .tail _ (.tail _ (sb p hp))) (fun b y hb e => hx' b y hb e) (show GP c.pre s'.gens from at_gens ai)).1
      refine ⟨m', hoC'.ns (at_get b1 (.head _)).1, fun h9 hs9 => ?_⟩
      have b2 : At W c vars ((D, LCg.lst ys) :: (T ++ led)) { s' with heap := h9 } := (at_change (s' := { s' with heap := h9 }) b1 (by obtain ⟨es, ep, hd9, _⟩ := hoC'; intro u e; rw [hd9] at e; cases e) (List.forall_mem_cons.mpr ⟨Nat.ne_of_lt lDC, fun p hp => (hne p hp).2.1⟩) (fun p hp => .tail _ (sb p hp)) (fun b y hb e => (hs9.2 b hb).trans e) (show GP c.pre s'.gens from at_gens ai)).1
      exact qk _ (.ref D) _ _ (hΦ D _ ys T ⟨rfl, _, rfl⟩ hdat) rfl b2 osi
  exact codeAny_compStart_list (loop _ rfl) ((LCg.range_walks rfl 0 n).self 0 _ _ _ (by
    have h9 := (at_get a3 (.head _)).1
    show h₁.get? I = some _
    have e9 : ((0 : Nat) : Int) = 0 := rfl
    rw [h9, e9, show (0 : Int) + 0 * 1 = 0 from rfl, show (n : Int) - 0 = n by omega, ritO_zero]) (loop _ rfl))
end
end Mine
set_option maxRecDepth 100000
namespace Mine
/-- the law is called: its frame is the first -/
theorem law_entry {W : Wd} {f sc : Addr} {oS : Obj} {s : Shared} {Q E : Value → Shared → Prop} {pvs : List PV} {vs : List Value} {q1 q2 : Array Value} {name qual : Str} {params : Arguments} {body : List Stmt} {scope : Scope} {dV kV doc pm cdv ct oc : Value} {an od : Option Addr} {osl : Array (Option Value)} (names cn : List Str)
    (ho : (hd.heap_39 W.w.params).lookup f = some ⟨oc, od, .func (fnOf name qual params body scope dV kV doc pm an cdv ct), osl⟩) (hcd : codeIn (hd.heap_39 W.w.params) cdv qual = true)
    (hvs : AllIs pvs vs) (hbind : BindsTo s (fnOf name qual params body scope dV kV doc pm an cdv ct) ⟨vs, []⟩ (names.zip vs))
    (t1 : TriplesOk q1.toList) (t2 : TriplesOk q2.toList) (e1 : s.heap.get? 95 = some (tabO q1)) (e2 : s.heap.get? 124 = some (tabO q2)) (e3 : s.heap.get? sc = some oS) (hsc : sc ≠ 95 ∧ sc ≠ 124)
    (X : (hd.heap_39 W.w.params).In (hideAll s.heap [95, 124, sc])) (T : Top p0 loose0 W.mean W.mg W.mb (hideAll s.heap [95, 124, sc])) (G : GP [] s.gens)
    (hb : ∀ c : Cx, c.cs = scope → c.cl = cellsFrom (c.L + 1) scope.names [] → c.base = c.h₀ → c.post = (fun pv _ => pv = .bool true) → c.relE = (fun _ => False) → c.Room 20 → c.un + 64 < cLine → c.led₀ = [(sc, oS)] → sc < c.L → Bd W c (cn.map (fun y => (y, .un)) ++ names.zip pvs) c.led₀ body fun _ _ => False)
    (hq : ∀ m led L s', Fr (hideAll s.heap [95, 124, sc]) L s'.heap m → NewsT (hideAll s.heap [95, 124, sc]) L s'.heap led → (sc, oS) ∈ led → GP [] s'.gens → s'.os = s.os → Q (.bool true) s')
    (hcn : ∀ y ∈ cn, scope.names.lookup y = some .cell) (hcl : ∀ n, ∀ y ∈ cn, ∃ r, (cellsFrom n scope.names []).lookup y = some r)
    (hn : names.Nodup := by decide) (hloc : ∀ y ∈ names, scope.names.lookup y = some .local := by decide) (hnd : ((cellsFrom 0 scope.names []).map (·.1)).Nodup := by decide)
    (hco : scope.isCoroutine = false := by rfl) (hgen : scope.isGenerator = false := by rfl) (hk : scope.kind = .function := by rfl) : wpAny (model pw W.w) callerA (call (.ref f) vs) Q E s := by
  have up : ∀ b o, (hideAll s.heap [95, 124, sc]).get? b = some o → s.heap.get? b = some o := fun b o e => of_hideAll _ e
  have N : News (hideAll s.heap [95, 124, sc]) s.heap.objs.size s.heap (T2 q1 q2 [(sc, oS)]) := fun p hp => by
    simp only [T2, List.mem_cons, List.not_mem_nil, or_false] at hp
    rcases hp with rfl | rfl | rfl
    · exact ⟨e1, Nat.ne_of_lt (Heap.lt_size e1), hideAll_none _ (by simp)⟩
    · exact ⟨e2, Nat.ne_of_lt (Heap.lt_size e2), hideAll_none _ (by simp)⟩
    · exact ⟨e3, Nat.ne_of_lt (Heap.lt_size e3), hideAll_none _ (by simp)⟩
  refine wpAny_call (codeAny_call_function (show 1 + claimMargin < recursionLimit by decide) (up _ _ (X _ _ ho)) rfl hco hgen rfl (codeRec_of (Frag.In.keeps X up) hcd) (hbind _ _ _ _ ?_))
  have hlo : ∀ L', ∀ y ∈ names.zip vs, (envOfC qual scope L' f cdv).kindOf y.1 = some .local := fun _ => zip_all hloc
  refine wpAny_newFunctionEnv_cells hk (fun y hy => .inl (hloc _ (List.of_mem_zip hy).1)) fun env' he s' x => ?_
  subst he
  refine ⟨((Top.nolimit T).keeps up).keeps x.toInCall.keep, codeAny_func ?_⟩
  obtain ⟨h₁, tk, rfl, _⟩ := x.done
  have hk₁ := x.toInCall.keep
  obtain ⟨cells, NC, Y⟩ := Cl.news (h₀ := s.heap) (Nat.le_refl _) fun n c hm => ⟨x.cell n c (lookup_of_mem_nodup (cellsFrom_names scope.names 0 (s.heap.objs.size + 1) [] [] rfl ▸ hnd) hm), x.above n c hm⟩
  have hcd' := cellsAre_data Y
  have F' : Fr (hideAll s.heap [95, 124, sc]) s.heap.objs.size h₁ _ := ⟨x.toInCall.ns, fun b o e => hk₁ b o (of_hideAll _ e), Nat.le_of_eq (hideAll_size _ _)⟩
  have N' : News (hideAll s.heap [95, 124, sc]) s.heap.objs.size h₁ (T2 q1 q2 (cells ++ [(sc, oS)])) := fun p hp => by
    have old : ∀ p ∈ T2 q1 q2 [(sc, oS)], h₁.get? p.1 = some p.2 ∧ p.1 ≠ s.heap.objs.size ∧ (hideAll s.heap [95, 124, sc]).get? p.1 = none := fun p hp => ⟨hk₁ _ _ (N p hp).1, (N p hp).2⟩
    rcases List.mem_cons.mp hp with rfl | hp
    · exact old _ (.head _)
    · rcases List.mem_cons.mp hp with rfl | hp
      · exact old _ (.tail _ (.head _))
      · rcases List.mem_append.mp hp with hp | hp
        · refine ⟨(NC p hp).1, (NC p hp).2.1, ?_⟩
          cases q : (hideAll s.heap [95, 124, sc]).get? p.1 with
          | none => rfl
          | some o => have := of_hideAll _ q; rw [(NC p hp).2.2] at this; cases this
        · exact old _ (.tail _ (.tail _ hp))
  have room' : Cx.Room ⟨1 + claimMargin + 1, 4 + 3, some [], qual, scope, f, cdv, cellsFrom (s.heap.objs.size + 1) scope.names [], [], callerA, hideAll s.heap [95, 124, sc], hideAll s.heap [95, 124, sc], s.heap.objs.size, [(sc, oS)], fun pv _ => pv = .bool true, fun _ => False, []⟩ 20 := ⟨show 1 + claimMargin + 1 + 20 < recursionLimit by decide, show 4 + 3 + 10 * 20 < cLine by decide +kernel⟩
  refine hb ⟨1 + claimMargin + 1, 4 + 3, some [], qual, scope, f, cdv, cellsFrom (s.heap.objs.size + 1) scope.names [], [], callerA, hideAll s.heap [95, 124, sc], hideAll s.heap [95, 124, sc], s.heap.objs.size, [(sc, oS)], fun pv _ => pv = .bool true, fun _ => False, []⟩ rfl rfl rfl rfl rfl room' (show 4 + 3 + 64 < cLine by decide +kernel) rfl (Heap.lt_size e3) _ _ _ ⟨⟨below_caller _, X, T, ⟨X, T⟩, hk, rfl⟩, fun p hp => hp, _, cells, F', fun x pv hx => ?_, ⟨q1, q2, t1, t2, ?_, N'⟩, G⟩ ?_ (fun _ _ _ h => h.elim) (fun _ _ _ h => h.elim)
  · rcases un_look hx with ⟨hxc, rfl⟩ | hx
    · obtain ⟨r, hr⟩ := hcl (s.heap.objs.size + 1) x hxc
      obtain ⟨o, hm, hd⟩ := cellsAre_look Y hr
      refine .inr (.inl ⟨hcn x hxc, r, o, _, hr, hm, hd, .inr ⟨rfl, ?_⟩⟩)
      exact congrFun (bindC_loc (hlo s.heap.objs.size)) x
    · obtain ⟨v, hv, hi⟩ := zip_is hvs hx
      exact .inl ⟨hloc x (List.of_mem_zip (mem_look hv)).1, v, bindL_in (hlo s.heap.objs.size) (hn.sublist zip_sub) hv, hi⟩
  · intro p hp
    rcases List.mem_append.mp hp with hp | hp
    · obtain ⟨u, hu⟩ := hcd' p hp
      have h1 := (N' p (.tail _ (.tail _ (List.mem_append_left _ hp)))).1
      have h2 := (N' (95, tabO q1) (.head _)).1
      have h3 := (N' (124, tabO q2) (.tail _ (.head _))).1
      refine ⟨fun e => ?_, fun e => ?_⟩
      · rw [e, h2] at h1; injection h1 with h1; rw [← h1] at hu; cases hu
      · rw [e, h3] at h1; injection h1 with h1; rw [← h1] at hu; cases hu
    · rw [List.mem_singleton.mp hp]; exact hsc
  · rintro v pv own ledf m1 s' hp hv F1 NT hs G1 os1
    obtain rfl : pv = .bool true := hp
    obtain rfl : v = .bool true := hv
    exact hq m1 ledf _ s' F1 NT (hs _ (List.mem_append_right _ (.head _))) G1 os1
end Mine
set_option maxRecDepth 100000
namespace Mine
theorem names_ok : ∀ k ∈ names, PyData.strOk k = true := by decide +kernel
theorem pop_no : (Str.ofString "Pop") ∉ tzols ∧ (Str.ofString "Pop") ∈ names ∧ (Str.ofString "Ik'") ∉ haabs ∧ (Str.ofString "Ik'") ∈ names ∧ (Str.ofString "Imix'") ∉ haabs ∧ (Str.ofString "Imix'") ∈ names := by decide +kernel
theorem str_small : ∀ i : Fin 100, (Str.ofString (toString ((i.val : Nat) : Int))).length ≤ 5 := by decide +kernel
theorem str_len {i : Int} (h0 : 0 ≤ i) (h1 : i < 100) : (Str.ofString (toString i)).length ≤ 5 := by
  have := str_small ⟨i.toNat, by omega⟩
  rwa [show (((⟨i.toNat, by omega⟩ : Fin 100).val : Nat) : Int) = i from Int.toNat_of_nonneg h0] at this
theorem hn_idx : ∀ i : Fin 19, haabs.idxOf (HN (i.val : Int)) = i.val := by simp only [HN_eq]; decide +kernel
/-- the size of an int -/
def absI (i : Int) : Int := (i.natAbs : Int)
theorem absI_nn (i : Int) : 0 ≤ absI i := by unfold absI; omega
/-- next_tzolkin asked for a day that is one -/
theorem nt_ok {G jd : Int} {pv : PV} {own : Led} (g0 : 0 ≤ G) (g1 : G < 260) (hj : 584283 ≤ jd) (h : LcP (NtP (G % 13 + 1) (TN (G % 20)) jd) (NtE (G % 13 + 1) (TN (G % 20)) jd) pv own) : own = [] ∧ pv = .int (jd + (G - TzC jd) % 260) := by
  have hm := tn_mem (i := G % 20) (by omega) (by omega)
  rcases h with ⟨rfl, _, _, _, i, j, b1, b2, b3, b4, b5, b6, b7, rfl⟩ | ⟨rfl, ⟨h, _⟩ | ⟨h, _⟩⟩
  · obtain rfl := tn_inj (by omega) (by omega) b1 b2 b3
    obtain rfl := tz_day (i := 0) g0 g1 b4 b5 b6 b7
    refine ⟨rfl, ?_⟩
    rw [show G + 1 - (TzC jd + 1) = G - TzC jd by omega]
  · rcases h with ⟨_, h⟩ | ⟨h, _⟩
    · omega
    · exact absurd h (by decide)
  · rcases h with ⟨h, _⟩ | ⟨_, _, _, _, h⟩
    · exact absurd h (by decide)
    · exact absurd hm.1 h
/-- next_tzolkin that says IndexError -/
theorem nt_index {x jd : Int} {k : Str} {pv : PV} {own : Led} (hx : jd < 584283 ∨ x < 1 ∨ 13 < x) (h : LcP (NtP x k jd) (NtE x k jd) pv own) : own = [] ∧ pv = .str "index" := by
  rcases h with ⟨_, h1, h2, h3, _⟩ | ⟨rfl, ⟨_, rfl⟩ | ⟨h, _⟩⟩
  · omega
  · exact ⟨rfl, rfl⟩
  · rcases h with ⟨h, _⟩ | ⟨_, h1, h2, h3, _⟩
    · exact absurd h (by decide)
    · omega
theorem nt_value {x jd : Int} {k : Str} {pv : PV} {own : Led} (h0 : 584283 ≤ jd) (h1 : 1 ≤ x) (h2 : x ≤ 13) (hk : k ∉ tzols) (h : LcP (NtP x k jd) (NtE x k jd) pv own) : own = [] ∧ pv = .str "value" := by
  rcases h with ⟨_, _, _, _, i, j, b1, b2, rfl, _⟩ | ⟨rfl, ⟨h, _⟩ | ⟨_, rfl⟩⟩
  · exact absurd (tn_mem b1 b2).1 hk
  · rcases h with ⟨_, h⟩ | ⟨h, _⟩
    · omega
    · exact absurd h (by decide)
  · exact ⟨rfl, rfl⟩
theorem nh_ok {O jd : Int} {pv : PV} {own : Led} (g0 : 0 ≤ O) (g1 : O < 19) (hj : 584283 ≤ jd) (h : LcP (NhP (HN O) jd) (NhE (HN O) jd) pv own) : own = [] ∧ pv = .int (jd + (20 * O + 1 - HaC jd) % 365) := by
  have hm := hn_mem g0 g1
  rcases h with ⟨rfl, _, i, b1, b2, b3, rfl⟩ | ⟨rfl, ⟨h, _⟩ | ⟨h, _⟩⟩
  · obtain rfl := hn_inj g0 g1 b1 b2 b3
    refine ⟨rfl, ?_⟩
    rw [show O * 20 + 1 - HaC jd = 20 * O + 1 - HaC jd by omega]
  · rcases h with ⟨_, h⟩ | ⟨h, _⟩
    · omega
    · exact absurd h (by decide)
  · rcases h with ⟨h, _⟩ | ⟨_, _, h⟩
    · exact absurd h (by decide)
    · exact absurd hm.1 h
theorem nh_index {jd : Int} {k : Str} {pv : PV} {own : Led} (hj : jd < 584283) (h : LcP (NhP k jd) (NhE k jd) pv own) : own = [] ∧ pv = .str "index" := by
  rcases h with ⟨_, h1, _⟩ | ⟨rfl, ⟨_, rfl⟩ | ⟨h, _⟩⟩
  · omega
  · exact ⟨rfl, rfl⟩
  · rcases h with ⟨h, _⟩ | ⟨_, h1, _⟩
    · exact absurd h (by decide)
    · omega
theorem nh_value {jd : Int} {k : Str} {pv : PV} {own : Led} (hj : 584283 ≤ jd) (hk : k ∉ haabs) (h : LcP (NhP k jd) (NhE k jd) pv own) : own = [] ∧ pv = .str "value" := by
  rcases h with ⟨_, _, i, b1, b2, rfl, _⟩ | ⟨rfl, ⟨h, _⟩ | ⟨_, rfl⟩⟩
  · exact absurd (hn_mem b1 b2).1 hk
  · rcases h with ⟨_, h⟩ | ⟨h, _⟩
    · omega
    · exact absurd h (by decide)
  · exact ⟨rfl, rfl⟩
theorem fd_value {pv : PV} {own : Led} (h : LcP (fun _ _ => False) (fun X => X = "ValueError") pv own) : own = [] ∧ pv = .str "value" := by
  rcases h with h | ⟨rfl, ⟨h, _⟩ | ⟨_, rfl⟩⟩
  · exact h.elim
  · exact absurd h (by decide)
  · exact ⟨rfl, rfl⟩
/-- what _law_both tells is what next_tzolkin_haab gives -/
theorem nb_ok {G Wv jd : Int} {pf pv : PV} {own of : Led} (g0 : 0 ≤ G) (g1 : G < 260) (w0 : 0 ≤ Wv) (w1 : Wv < 365) (hf : LbP (HaC jd) (TzC jd) Wv G pf of) (h : LcP (NbP (G % 13 + 1) (TN (G % 20)) (Wv % 20) (HN (Wv / 20)) jd) (NbE (G % 13 + 1) (TN (G % 20)) (Wv % 20) (HN (Wv / 20)) jd) pv own) :
    own = [] ∧ ((∃ K, pf = .int K ∧ pv = .int (jd + K)) ∨ (pf = .none ∧ pv = .str "index")) := by
  have hm := tn_mem (i := G % 20) (by omega) (by omega)
  have hm2 := hn_mem (i := Wv / 20) (by omega) (by omega)
  have hb := haC_b jd
  have ht := tzC_b jd
  have key : ∀ {i ti tj : Int}, Nb0 (G % 13 + 1) (TN (G % 20)) (Wv % 20) (HN (Wv / 20)) i ti tj → HbP i (Wv % 20) jd = (Wv - HaC jd) % 365 ∧ TbP tj jd = (G - TzC jd) % 260 := by
    rintro i ti tj ⟨_, _, a1, a2, a3, _, _, b1, b2, b3, b4, b5, b6, b7⟩
    obtain rfl := hn_inj (by omega) (by omega) a1 a2 a3
    obtain rfl := tn_inj (by omega) (by omega) b1 b2 b3
    obtain rfl := tz_day (i := 0) g0 g1 b4 b5 b6 b7
    unfold HbP TbP
    rw [show Wv / 20 * 20 + Wv % 20 - HaC jd = Wv - HaC jd by omega, show G + 1 - (TzC jd + 1) = G - TzC jd by omega]
    exact ⟨rfl, rfl⟩
  generalize HaC jd = P at *
  generalize TzC jd = C at *
  rcases hf with ⟨_, ⟨i, hi, he, rfl⟩ | ⟨rfl, hno⟩⟩
  · rcases h with ⟨rfl, i', ti, tj, j, nb, j0, j1, j2, j3, rfl⟩ | ⟨rfl, ⟨h, _⟩ | ⟨h, _⟩⟩
    · obtain ⟨k1, k2⟩ := key nb
      rw [k1] at j2
      rw [k2] at j3
      refine ⟨rfl, .inl ⟨_, rfl, ?_⟩⟩
      congr 1
      omega
    · rcases h with ⟨_, h | h | h | h | ⟨i', ti, tj, nb, h5⟩⟩ | ⟨h, _⟩
      · omega
      · omega
      · omega
      · omega
      · obtain ⟨k1, k2⟩ := key nb
        rw [k1, k2] at h5
        omega
      · exact absurd h (by decide)
    · rcases h with ⟨h, _⟩ | ⟨_, _, _, h | h⟩
      · exact absurd h (by decide)
      · exact absurd hm2.1 h
      · exact absurd hm.1 h
  · rcases h with ⟨rfl, i', ti, tj, j, nb, j0, j1, j2, j3, rfl⟩ | ⟨rfl, ⟨_, rfl⟩ | ⟨h, _⟩⟩
    · obtain ⟨k1, k2⟩ := key nb
      rw [k1] at j2
      rw [k2] at j3
      exact absurd (by rw [show (Wv - P) % 365 + 365 * (((j / 365).toNat : Nat) : Int) = j by omega]; omega) (hno (j / 365).toNat (by omega))
    · exact ⟨rfl, .inr ⟨rfl, rfl⟩⟩
    · rcases h with ⟨h, _⟩ | ⟨_, _, _, h | h⟩
      · exact absurd h (by decide)
      · exact absurd hm2.1 h
      · exact absurd hm.1 h
theorem nb_index {x y jd : Int} {k l : Str} {pv : PV} {own : Led} (hy : y < 0 ∨ 19 < y) (h : LcP (NbP x k y l jd) (NbE x k y l jd) pv own) : own = [] ∧ pv = .str "index" := by
  rcases h with ⟨_, i, ti, tj, j, nb, _⟩ | ⟨rfl, ⟨_, rfl⟩ | ⟨h, _⟩⟩
  · have := nb.1
    have := nb.2.1
    omega
  · exact ⟨rfl, rfl⟩
  · rcases h with ⟨h, _⟩ | ⟨_, h1, h2, _⟩
    · exact absurd h (by decide)
    · omega
theorem nb_value {x y jd : Int} {k l : Str} {pv : PV} {own : Led} (h0 : 0 ≤ y) (h1 : y ≤ 19) (h2 : 1 ≤ x) (h3 : x ≤ 13) (hl : l ∉ haabs) (h : LcP (NbP x k y l jd) (NbE x k y l jd) pv own) : own = [] ∧ pv = .str "value" := by
  rcases h with ⟨_, i, ti, tj, j, ⟨_, _, a1, a2, rfl, _⟩, _⟩ | ⟨rfl, ⟨h, _⟩ | ⟨_, rfl⟩⟩
  · exact absurd (hn_mem a1 a2).1 hl
  · rcases h with ⟨_, h | h | h | h | ⟨i', ti, tj, ⟨_, _, a1, a2, rfl, _⟩, h5⟩⟩ | ⟨h, _⟩
    · omega
    · omega
    · omega
    · omega
    · exact absurd (hn_mem a1 a2).1 hl
    · exact absurd h (by decide)
  · exact ⟨rfl, rfl⟩
/-- the first `many` days that the generator tells of are those of the law -/
theorem first_is {C : Int} {many : Nat} (h0 : 0 ≤ C) (h1 : (many : Int) ≤ 259 - C) : datN (rngs C) many = pairN (fun i => (C + i) % 13 + 1) (fun i => TN ((C + i) % 20)) many := by
  unfold datN pairN
  refine List.map_congr_left fun i hi => ?_
  have hi := List.mem_range.mp hi
  have e : (rngs C).getD i 0 = C + 1 + i := by
    unfold rngs
    rw [List.getD_eq_getElem?_getD, List.getElem?_append_left (by rw [List.length_map, List.length_range]; omega), List.getElem?_map, List.getElem?_range (by omega)]
    rfl
  rw [e]
  unfold fcA fcB
  rw [show C + 1 + (i : Int) - 1 = C + i by omega]
theorem pairs_ok {a : Nat → Int} {b : Nat → Str} {n m : Nat} (h : ∀ i, b i ∈ names) : ∀ d ∈ pairN a b n, kqdOk (m + 1) d = true := by
  intro d hd
  obtain ⟨i, _, rfl⟩ := List.mem_map.mp hd
  show ([Dat.int (a i), Dat.str (b i)] : List Dat).all (kqdOk m) = true
  have : kqdOk m (.str (b i)) = true := by
    have := names_ok _ (h i)
    cases m <;> exact this
  have h2 : kqdOk m (.int (a i)) = true := by cases m <;> rfl
  simp [this, h2]
end Mine
set_option maxRecDepth 100000
namespace Mine
section
variable {W : Wd} {c : Cx} {vars : Vars} {led : Led} {Φ : PV → Led → Prop}
/-- a test that does not hold: its ledger is left behind -/
theorem b_skip {t : Expr} {b1 rest : List Stmt} {p : Pos} {N : Vars → Led → Prop} (hs : ∀ p ∈ c.led₀, p ∈ led) (h : Tx W c vars led t fun b l => b = false ∧ ∀ q ∈ led, q ∈ l) (k : Bd W c vars led rest N) : Bd W c vars led (.If t b1 [] p :: rest) N := by
  refine b_if (fun s Q E a q bad => h s Q E a (fun b l s1 hb a1 os1 => q b l s1 ⟨fun e => ?_, fun _ => b_nil ?_⟩ a1 os1) bad)
  · rw [hb.1] at e; cases e
  · exact fun s Q E a dn nx bad => k s Q E (at_led a hb.2 hs) dn nx bad
theorem cp_ne_self (i : Int) : Cp W c led .NotEq (.int i) (.int i) false := by
  have := cp_ne (W := W) (c := c) (led := led) i i
  rwa [bne_self_eq_false] at this
theorem cp_ne_sself (x : Str) : Cp W c led .NotEq (.str x) (.str x) false := by
  have := cp_ne_str (W := W) (c := c) (led := led) x x
  rwa [bne_self_eq_false] at this
theorem cp_pairs {t u : Addr} {x : Int} {k : Str} {k1 k2 k3 k4 : Tok} (hk : k ∈ names) (hr : c.un + 64 < cLine) (m1 : (t, Tup #[.int x k1, .str k k2]) ∈ led) (m2 : (u, Tup #[.int x k3, .str k k4]) ∈ led) : Cp W c led .NotEq (.ref t) (.ref u) false :=
  cp_ne_same (d := .tuple [.int x, .str k]) (n1 := led) (n2 := led) (.tuple (n := 0) (vs := [.int x k1, .str k k2]) m1 (.cons (.int _ _) (.cons (.str _ _) .nil))) (.tuple (n := 0) (vs := [.int x k3, .str k k4]) m2 (.cons (.int _ _) (.cons (.str _ _) .nil))) (fun _ h => h) (fun _ h => h) (by
    have := names_ok _ hk
    show ([Dat.int x, Dat.str k] : List Dat).all (kqdOk 8) = true
    have h2 : kqdOk 8 (.str k) = true := this
    have h3 : kqdOk 8 (.int x) = true := rfl
    simp [h2, h3]) hr
/-- `abs(_law_cell(script, k))` -/
theorem x_absc {sc : Addr} {oS : Obj} {vs : List Value} {xs : List Int} (h1 : LisO oS vs) (h2 : IntsAre vs xs) (h3 : vs.length < 1000) (k : Nat) {kk : Nat} {p1 p2 p3 p4 p5 p6 : Pos} (room : c.Room 1) (hkA : c.env.kindOf "abs" = some .globalImplicit) (hkC : c.env.kindOf "_law_cell" = some .globalImplicit) (hv : vars.lookup ("script" : Str) = some (.ref sc)) (hm : (sc, oS) ∈ led)
    (h : Φ (.int (absI (xs.getD k 0))) led) : Wx W c vars led (.Call (.Name "abs" p1) [.Call (.Name "_law_cell" p2) [.Name "script" p3, .Constant (.int (k : Nat)) kk p4] [] p5] [] p6) Φ := by
  refine x_builtin PyProof.Rows.Boot.«abs» (by k_is) (by decide) (a_cons (x_fn (f_law_cell sc oS vs xs k h1 h2 h3) (by k_is) room (fun _ h => h.elim) (a_pure (Pe.name hv rfl) (a_pure Pe.int (a_nil ⟨rfl, List.forall_mem_cons.mpr ⟨hm, fun _ h => nomatch h⟩, ?_⟩))) hkC)) hkA
  rintro _ _ ⟨rfl, rfl⟩
  refine a_nil ⟨_, g_abs _, ?_⟩
  have e : (if xs.getD k 0 < 0 then -xs.getD k 0 else xs.getD k 0) = absI (xs.getD k 0) := by unfold absI; split <;> omega
  rw [e]; exact h
/-- `_law_cell(script, k)` -/
theorem x_cellc {sc : Addr} {oS : Obj} {vs : List Value} {xs : List Int} (h1 : LisO oS vs) (h2 : IntsAre vs xs) (h3 : vs.length < 1000) (k : Nat) {kk : Nat} {p2 p3 p4 p5 : Pos} (room : c.Room 1) (hkC : c.env.kindOf "_law_cell" = some .globalImplicit) (hv : vars.lookup ("script" : Str) = some (.ref sc)) (hm : (sc, oS) ∈ led)
    (h : Φ (.int (xs.getD k 0)) led) : Wx W c vars led (.Call (.Name "_law_cell" p2) [.Name "script" p3, .Constant (.int (k : Nat)) kk p4] [] p5) Φ := by
  refine x_fn (f_law_cell sc oS vs xs k h1 h2 h3) (by k_is) room (fun _ h => h.elim) (a_pure (Pe.name hv rfl) (a_pure Pe.int (a_nil ⟨rfl, List.forall_mem_cons.mpr ⟨hm, fun _ h => nomatch h⟩, ?_⟩))) hkC
  rintro _ _ ⟨rfl, rfl⟩
  exact h
theorem b_led {l : Led} {body : List Stmt} {N : Vars → Led → Prop} (hs : ∀ p ∈ c.led₀, p ∈ led) (sub : ∀ q ∈ led, q ∈ l) (k : Bd W c vars led body N) : Bd W c vars l body N :=
  fun s Q E a dn nx bad => k s Q E (at_led a sub hs) dn nx bad
/-- a call, its contract picked when the arguments are known -/
theorem x_fnD {f : Str} {fa : Addr} {x : Expr} {r : List Expr} {k : Nat} {p p' : Pos} (e : nsIn (hd.heap_39 W.w.params) mainGlobals f = some (some (.ref fa)))
    (hr : c.Room k) (h : Ax W c vars led (x :: r) fun ps l1 => ∃ req post relE', FnC W c fa k ps req post relE' ∧ (∀ X, relE' X → c.relE X) ∧ (∀ q ∈ req, q ∈ l1) ∧ ∀ pv own, post pv own → Φ pv (own ++ l1))
    (hf : c.env.kindOf f = some .globalImplicit := by first | rfl | exact kind_of (by assumption) rfl) (hdb : (f == ("__debug__" : Str)) = false := by decide) (hfn : ∃ o fd, (hd.heap_39 W.w.params).lookup fa = some o ∧ o.data = .func fd := by exact ⟨_, _, rfl, rfl⟩)
    (he : starEach (x :: r) c.env = (false, eval x c.env) :: starEach r c.env := by rfl) : Wx W c vars led (.Call (.Name f p) (x :: r) [] p') Φ := by
  intro s Q E a q bad
  obtain ⟨m0, cells0, F0, _, _, _⟩ := a.ex
  obtain ⟨o, fd, ho, hod⟩ := hfn
  refine Call_ (nameX_K F0 a.ok.inK (topRead_of a.ok.top) e ?_ a.ok.kind hf hdb)
  have go : ∀ vs ps l1 (s1 : Shared), (∃ req post relE', FnC W c fa k ps req post relE' ∧ (∀ X, relE' X → c.relE X) ∧ (∀ q ∈ req, q ∈ l1) ∧ ∀ pv own, post pv own → Φ pv (own ++ l1)) → AllIs ps vs → At W c vars l1 s1 → s1.os = s.os → s1.heap.get? fa = some o ∧ wpAny (model pw W.w) c.A (call (.ref fa) vs) Q E s1 := by
    rintro vs ps l1 s1 ⟨req, post, relE', C, hE, hreq, hΦ⟩ hvs a1 os1
    obtain ⟨m, cells, F, l, NT, G⟩ := a1.ex
    refine ⟨(Frag.In.keeps a1.ok.inK F.keep) _ _ ho, C s1 vs m (cells ++ l1) Q E a1.ok hr hvs F NT G (fun p hp => List.mem_append_right _ (hreq p hp)) (fun v pv own s2 hp hv F2 NT2 G2 os2 => ?_) fun X e s2 hX hG os2 => ?_⟩
    · refine q v pv (own ++ l1) s2 (hΦ pv own hp) hv ⟨a1.ok, fun p hm => List.mem_append_right _ (a1.sub p hm), m, cells, F2, l, newsT_perm NT2 fun p hm => ?_, G2⟩ (os2.trans os1)
      rcases List.mem_append.mp hm with h | h
      · exact List.mem_append_right _ (List.mem_append_left _ h)
      · rcases List.mem_append.mp h with h | h
        · exact List.mem_append_left _ h
        · exact List.mem_append_right _ (List.mem_append_right _ h)
    · exact bad X e s2 (hE X hX) ⟨cells ++ l1, fun p hm => List.mem_append_right _ (a1.sub p hm), .inl hG⟩ (os2.trans os1)
  exact callWith_def hod (h s (fun vs s1 => s1.heap.get? fa = some o ∧ wpAny (model pw W.w) c.A (call (.ref fa) vs) Q E s1) E p' a (fun vs ps l1 s1 hps hvs a1 os1 => go vs ps l1 s1 hps hvs a1 os1) bad) he
end
end Mine
set_option maxRecDepth 100000
namespace Mine
set_option maxHeartbeats 4000000 in
theorem law_runs {W : Wd} {sc : Addr} {oS : Obj} {vs : List Value} {xs : List Int} {s : Shared} {Q E : Value → Shared → Prop} {q1 q2 : Array Value} (l1 : LisO oS vs) (l2 : IntsAre vs xs) (l3 : vs.length < 1000)
    (t1 : TriplesOk q1.toList) (t2 : TriplesOk q2.toList) (e1 : s.heap.get? 95 = some (tabO q1)) (e2 : s.heap.get? 124 = some (tabO q2)) (e3 : s.heap.get? sc = some oS) (hsc : sc ≠ 95 ∧ sc ≠ 124)
    (X : (hd.heap_39 W.w.params).In (hideAll s.heap [95, 124, sc])) (T : Top p0 loose0 W.mean W.mg W.mb (hideAll s.heap [95, 124, sc])) (G : GP [] s.gens)
    (hq : ∀ m led L s', Fr (hideAll s.heap [95, 124, sc]) L s'.heap m → NewsT (hideAll s.heap [95, 124, sc]) L s'.heap led → (sc, oS) ∈ led → GP [] s'.gens → s'.os = s.os → Q (.bool true) s') :
    wpAny (model pw W.w) callerA (call (.ref 204) [.ref sc]) Q E s := by
  refine law_entry (names := ["script"]) (cn := ["count"]) (pvs := [.ref sc]) rfl rfl ⟨_, _, rfl, rfl, rfl⟩ (BindsTo.of_eq rfl) t1 t2 e1 e2 e3 hsc X T G ?_ hq (by decide) (fun n => List.forall_mem_cons.mpr ⟨⟨_, rfl⟩, fun _ h => nomatch h⟩)
  clear hq X T G e1 e2 e3 t1 t2
  intro c hcs hcl hbase hpost hrelE room room2 hled hlt
  have hno : ∀ X, False → c.relE X := fun _ h => h.elim
  -- n, jd, place, count
  refine b_assign (kind_of hcs rfl) (x_bin (x_absc l1 l2 l3 0 (room.mono (by decide)) (kind_of hcs rfl) (kind_of hcs rfl) rfl (by rw [hled]; exact .head _) (x_pure (Pe.bin Pe.int Pe.int (Ar.pow _ _ (by decide))) ⟨_, _, _, rfl, rfl, Ar.mod _ _ (by decide), ?_⟩)))
  obtain ⟨n, hn⟩ : ∃ n, n = absI (xs.getD 0 0) % 10 ^ (15 : Int).toNat := ⟨_, rfl⟩
  have n0 : 0 ≤ n := by rw [hn]; exact Int.emod_nonneg _ (by decide)
  rw [← hn]
  clear hn
  obtain ⟨jd, hjd⟩ : ∃ jd, jd = 584283 + n := ⟨_, rfl⟩
  refine b_assign (kind_of hcs rfl) (x_pure (pv := .int jd) (by rw [hjd]; exact Pe.bin Pe.int (Pe.name rfl rfl) (Ar.add _ _)) ?_)
  have hb := haC_b jd
  have ht := tzC_b jd
  have hj0 : 584283 ≤ jd := by omega
  refine b_assign (kind_of hcs rfl) (x_pure (pv := .int (HaC jd)) (by rw [show HaC jd = (348 + n) % 365 by unfold HaC; omega]; exact Pe.bin (Pe.bin Pe.int (Pe.name rfl rfl) (Ar.add _ _)) Pe.int (Ar.mod _ _ (by decide))) ?_)
  refine b_assign_c (kind_of hcs rfl) (r := c.L + 1) (by rw [hcl]; rfl) rfl (fun y hy => ?_) (x_pure (pv := .int (TzC jd)) (by rw [show TzC jd = (159 + n) % 260 by unfold TzC; omega]; exact Pe.bin (Pe.bin Pe.int (Pe.name rfl rfl) (Ar.add _ _)) Pe.int (Ar.mod _ _ (by decide))) ⟨?_, ?_⟩)
  · rw [hcl] at hy
    have hy : List.lookup y [(("count" : Str), c.L + 1)] = some (c.L + 1) := hy
    rw [List.lookup_cons] at hy
    cases h9 : y == ("count" : Str) with
    | true => exact eq_of_beq h9
    | false => rw [h9] at hy; cases hy
  · exact fun p hp => .inl (by rw [hled] at hp; rw [List.mem_singleton.mp hp]; exact Nat.ne_of_lt (Nat.lt_succ_of_lt hlt))
  have hmH := hn_mem (i := HaC jd / 20) (by omega) (by omega)
  have hmT := tn_mem (i := TzC jd % 20) (by omega) (by omega)
  have hno' : ∀ X, (fun _ => False) X → c.relE X := fun _ h => h.elim
  have hm0 : (sc, oS) ∈ c.led₀ := by rw [hled]; exact .head _
  -- to_haab, to_tzolkin
  refine b_skip (fun _ h => h) (t_orc (t_cmp (x_fn (f_to_haab jd (by omega)) (by k_is) (room.mono (by decide)) (fun _ h => h.elim) (a_pure (Pe.name rfl rfl) (a_nil ⟨rfl, (fun _ h => nomatch h), ?_⟩))))) ?_
  · rintro _ _ ⟨u1, u2, u3, rfl, rfl⟩
    refine x_fn (f_law_haab (HaC jd) hb) (by k_is) (room.mono (by decide)) (fun _ h => h.elim) (a_pure (Pe.name rfl rfl) (a_nil ⟨rfl, (fun _ h => nomatch h), ?_⟩))
    rintro _ _ ⟨w1, w2, w3, rfl, rfl⟩
    refine ⟨false, cp_pairs hmH.2 room2 (.tail _ (.head _)) (.head _), (fun h => nomatch h), fun _ => t_orc (t_cmp (x_fn (f_to_tzolkin jd (by omega)) (by k_is) (room.mono (by decide)) (fun _ h => h.elim) (a_pure (Pe.name rfl rfl) (a_nil ⟨rfl, (fun _ h => nomatch h), ?_⟩))))⟩
    rintro _ _ ⟨v1, v2, v3, rfl, rfl⟩
    refine x_fn (f_law_tzolkin (TzC jd) ht.1) (by k_is) (room.mono (by decide)) (fun _ h => h.elim) (a_pure (Pe.name rfl rfl) (a_nil ⟨rfl, (fun _ h => nomatch h), ?_⟩))
    rintro _ _ ⟨y1, y2, y3, rfl, rfl⟩
    exact ⟨false, cp_pairs hmT.2 room2 (.tail _ (.head _)) (.head _), (fun h => nomatch h), fun _ => t_orn ⟨rfl, (by intro q hq; repeat (first | exact hq | refine List.Mem.tail _ ?_))⟩⟩
  -- the digits
  have hJ : J (n / 144000) (n / 7200 % 20) (n / 360 % 20) (n / 20 % 18) (n % 20) = jd := by unfold J; omega
  refine b_unpack5 (kind_of hcs rfl) (kind_of hcs rfl) (kind_of hcs rfl) (kind_of hcs rfl) (kind_of hcs rfl) (x_tuple (a_pure (Pe.bin (Pe.name rfl rfl) Pe.int (Ar.div _ _ (by decide))) (a_pure (Pe.bin (Pe.bin (Pe.name rfl rfl) Pe.int (Ar.div _ _ (by decide))) Pe.int (Ar.mod _ _ (by decide))) (a_pure (Pe.bin (Pe.bin (Pe.name rfl rfl) Pe.int (Ar.div _ _ (by decide))) Pe.int (Ar.mod _ _ (by decide))) (a_pure (Pe.bin (Pe.bin (Pe.name rfl rfl) Pe.int (Ar.div _ _ (by decide))) Pe.int (Ar.mod _ _ (by decide))) (a_pure (Pe.bin (Pe.name rfl rfl) Pe.int (Ar.mod _ _ (by decide))) (a_nil ⟨(show 5 < 100 by decide), fun t5 vs5 h5 => ⟨t5, vs5, _, _, _, _, _, rfl, .head _, h5, b_led (led := c.led₀) (fun _ h => h) (fun _ h => .tail _ h) ?_⟩⟩)))))))
  have lcH := f_lc_to_haab (W := W) (n / 144000) (n / 7200 % 20) (n / 360 % 20) (n / 20 % 18) (n % 20) (by rw [hJ]; omega)
  have lcT := f_lc_to_tzolkin (W := W) (n / 144000) (n / 7200 % 20) (n / 360 % 20) (n / 20 % 18) (n % 20) (by rw [hJ]; omega)
  have lcS := f_lc_str (W := W) (n / 144000) (n / 7200 % 20) (n / 360 % 20) (n / 20 % 18) (n % 20) (by rw [hJ]; omega)
  rw [hJ] at lcH lcT lcS
  refine b_skip (fun _ h => h) (t_orc (t_cmp (x_fn (lcH) (by k_is) (room.mono (by decide)) (fun _ h => h.elim) (a_pure (Pe.name rfl rfl) (a_pure (Pe.name rfl rfl) (a_pure (Pe.name rfl rfl) (a_pure (Pe.name rfl rfl) (a_pure (Pe.name rfl rfl) (a_nil ⟨rfl, (fun _ h => nomatch h), ?_⟩))))))))) ?_
  · rintro _ _ ⟨u1, u2, u3, rfl, rfl⟩
    refine x_fn (f_law_haab (HaC jd) hb) (by k_is) (room.mono (by decide)) (fun _ h => h.elim) (a_pure (Pe.name rfl rfl) (a_nil ⟨rfl, (fun _ h => nomatch h), ?_⟩))
    rintro _ _ ⟨w1, w2, w3, rfl, rfl⟩
    refine ⟨false, cp_pairs hmH.2 room2 (.tail _ (.head _)) (.head _), (fun h => nomatch h), fun _ => t_orc (t_cmp (x_fn (lcT) (by k_is) (room.mono (by decide)) (fun _ h => h.elim) (a_pure (Pe.name rfl rfl) (a_pure (Pe.name rfl rfl) (a_pure (Pe.name rfl rfl) (a_pure (Pe.name rfl rfl) (a_pure (Pe.name rfl rfl) (a_nil ⟨rfl, (fun _ h => nomatch h), ?_⟩))))))))⟩
    rintro _ _ ⟨v1, v2, v3, rfl, rfl⟩
    refine x_fn (f_law_tzolkin (TzC jd) ht.1) (by k_is) (room.mono (by decide)) (fun _ h => h.elim) (a_pure (Pe.name rfl rfl) (a_nil ⟨rfl, (fun _ h => nomatch h), ?_⟩))
    rintro _ _ ⟨y1, y2, y3, rfl, rfl⟩
    exact ⟨false, cp_pairs hmT.2 room2 (.tail _ (.head _)) (.head _), (fun h => nomatch h), fun _ => t_orn ⟨rfl, (by intro q hq; repeat (first | exact hq | refine List.Mem.tail _ ?_))⟩⟩
  -- number, name, day, month
  refine b_unpack2 (kind_of hcs rfl) (kind_of hcs rfl) (x_fn (f_law_tzolkin (TzC jd) ht.1) (by k_is) (room.mono (by decide)) (fun _ h => h.elim) (a_pure (Pe.name rfl rfl) (a_nil ⟨rfl, (fun _ h => nomatch h), ?_⟩)))
  rintro _ _ ⟨u1, u2, u3, rfl, rfl⟩
  refine ⟨u1, _, _, .int (TzC jd % 13 + 1), .str (TN (TzC jd % 20)), rfl, .head _, ⟨_, rfl⟩, ⟨_, rfl⟩, b_led (led := c.led₀) (fun _ h => h) (fun _ h => .tail _ h) ?_⟩
  refine b_unpack2 (kind_of hcs rfl) (kind_of hcs rfl) (x_fn (f_law_haab (HaC jd) hb) (by k_is) (room.mono (by decide)) (fun _ h => h.elim) (a_pure (Pe.name rfl rfl) (a_nil ⟨rfl, (fun _ h => nomatch h), ?_⟩)))
  rintro _ _ ⟨u1, u2, u3, rfl, rfl⟩
  refine ⟨u1, _, _, .int (HaC jd % 20), .str (HN (HaC jd / 20)), rfl, .head _, ⟨_, rfl⟩, ⟨_, rfl⟩, b_led (led := c.led₀) (fun _ h => h) (fun _ h => .tail _ h) ?_⟩
  -- the text
  refine b_skip (fun _ h => h) (t_cmp (x_fn (lcS) (by k_is) (room.mono (by decide)) (fun _ h => h.elim) (a_pure (Pe.name rfl rfl) (a_pure (Pe.name rfl rfl) (a_pure (Pe.name rfl rfl) (a_pure (Pe.name rfl rfl) (a_pure (Pe.name rfl rfl) (a_nil ⟨rfl, (fun _ h => nomatch h), ?_⟩)))))))) ?_
  · rintro _ _ ⟨rfl, rfl⟩
    have sp : (Str.ofString " ").length = 1 := by decide
    have z1 := str_len (i := TzC jd % 13 + 1) (by omega) (by omega)
    have z2 := str_len (i := HaC jd % 20) (by omega) (by omega)
    have z3 := (names_len _ hmH.2).2
    have z4 := (names_len _ hmT.2).2
    refine x_scat (x_scat (x_scat (x_scat (x_scat (x_scat (x_type PyProof.Rows.Boot.«str» (by k_is) (by decide) (a_pure (Pe.name rfl rfl) (a_nil ⟨_, g_str _ (by omega) (by omega), x_pure Pe.str ⟨_, _, rfl, rfl, ?_, x_pure (Pe.name rfl rfl) ⟨_, _, rfl, rfl, ?_, x_pure Pe.str ⟨_, _, rfl, rfl, ?_, ?_⟩⟩⟩⟩))))))))
    · omega
    · simp only [PySem.Str.length_append]; omega
    · simp only [PySem.Str.length_append]; omega
    refine x_type PyProof.Rows.Boot.«str» (by k_is) (by decide) (a_pure (Pe.name rfl rfl) (a_nil ⟨_, g_str _ (by omega) (by omega), ⟨_, _, rfl, rfl, ?_, x_pure Pe.str ⟨_, _, rfl, rfl, ?_, x_pure (Pe.name rfl rfl) ⟨_, _, rfl, rfl, ?_, ?_⟩⟩⟩⟩))
    · simp only [PySem.Str.length_append]; omega
    · simp only [PySem.Str.length_append]; omega
    · simp only [PySem.Str.length_append]; omega
    exact ⟨false, cp_ne_sself _, rfl, (by intro q hq; repeat (first | exact hq | refine List.Mem.tail _ ?_))⟩
  -- goal, where, wish
  refine b_assign (kind_of hcs rfl) (x_bin (x_absc l1 l2 l3 1 (room.mono (by decide)) (kind_of hcs rfl) (kind_of hcs rfl) rfl (by first | exact hm0 | exact .tail _ hm0 | exact .tail _ (.tail _ hm0) | exact .tail _ (.tail _ (.tail _ hm0)) | exact .tail _ (.tail _ (.tail _ (.tail _ hm0)))) (x_pure Pe.int ⟨_, _, _, rfl, rfl, Ar.mod _ _ (by decide), ?_⟩)))
  obtain ⟨G, hG⟩ : ∃ G, G = absI (xs.getD 1 0) % 260 := ⟨_, rfl⟩
  have G0 : 0 ≤ G := by omega
  have G1 : G < 260 := by omega
  rw [← hG]
  clear hG
  refine b_assign (kind_of hcs rfl) (x_bin (x_absc l1 l2 l3 2 (room.mono (by decide)) (kind_of hcs rfl) (kind_of hcs rfl) rfl (by first | exact hm0 | exact .tail _ hm0 | exact .tail _ (.tail _ hm0) | exact .tail _ (.tail _ (.tail _ hm0)) | exact .tail _ (.tail _ (.tail _ (.tail _ hm0)))) (x_pure Pe.int ⟨_, _, _, rfl, rfl, Ar.mod _ _ (by decide), ?_⟩)))
  obtain ⟨Wv, hWv⟩ : ∃ Wv, Wv = absI (xs.getD 2 0) % 365 := ⟨_, rfl⟩
  have Wv0 : 0 ≤ Wv := by omega
  have Wv1 : Wv < 365 := by omega
  rw [← hWv]
  clear hWv
  have hmG := tn_mem (i := G % 20) (by omega) (by omega)
  have hmW := hn_mem (i := Wv / 20) (by omega) (by omega)
  refine b_assign (kind_of hcs rfl) (x_fn (f_law_tzolkin G G0) (by k_is) (room.mono (by decide)) (fun _ h => h.elim) (a_pure (Pe.name rfl rfl) (a_nil ⟨rfl, (fun _ h => nomatch h), ?_⟩)))
  rintro _ _ ⟨tw, wu1, wu2, rfl, rfl⟩
  have hs : ∀ p ∈ c.led₀, p ∈ ([(tw, Tup #[.int (G % 13 + 1) wu1, .str (TN (G % 20)) wu2])] ++ c.led₀) := fun _ h => .tail _ h
  -- next_tzolkin
  refine b_skip hs (t_cmp (x_fnC (f_lc_tz hbase tw (G % 13 + 1) (TN (G % 20)) wu1 wu2 jd hmG.2) (by k_is) (room.mono (by decide)) (fun _ h => h.elim) (a_pure Pe.str (a_pure (Pe.name rfl rfl) (a_pure Pe.none (a_pure (Pe.name rfl rfl) (a_nil ⟨rfl, List.forall_mem_cons.mpr ⟨by k_mem, fun _ h => nomatch h⟩, fun pv own h => ?_⟩))))))) ?_
  · obtain ⟨rfl, rfl⟩ := nt_ok G0 G1 hj0 h
    refine x_bin (x_pure (Pe.name rfl rfl) (x_fn (f_law_ahead (TzC jd) G) (by k_is) (room.mono (by decide)) (fun _ h => h.elim) (a_pure (Pe.name rfl rfl) (a_pure (Pe.name rfl rfl) (a_nil ⟨rfl, (fun _ h => nomatch h), ?_⟩)))))
    rintro _ _ ⟨rfl, rfl⟩
    exact ⟨_, _, _, rfl, rfl, Ar.add _ _, false, cp_ne_self _, rfl, (by intro q hq; repeat (first | exact hq | refine List.Mem.tail _ ?_))⟩
  -- both
  refine b_assign (kind_of hcs rfl) (x_fn (f_law_both (HaC jd) (TzC jd) Wv G) (by k_is) (room.mono (by decide)) (fun _ h => h.elim) (a_pure (Pe.name rfl rfl) (a_pure (Pe.name rfl rfl) (a_pure (Pe.name rfl rfl) (a_pure (Pe.name rfl rfl) (a_nil ⟨rfl, (fun _ h => nomatch h), ?_⟩))))))
  intro pf own9 hF
  obtain rfl : own9 = [] := hF.1
  refine b_skip hs (t_cmp (x_fnD (fa := 192) (k := 9) (by k_is) (room.mono (by decide)) (a_pure Pe.str (a_pure (Pe.name rfl rfl) (a_cons (x_fn (f_law_haab Wv ⟨Wv0, Wv1⟩) (by k_is) (room.mono (by decide)) (fun _ h => h.elim) (a_pure (Pe.name rfl rfl) (a_nil ⟨rfl, (fun _ h => nomatch h), ?_⟩)))))))) ?_
  · rintro _ _ ⟨u1, u2, u3, rfl, rfl⟩
    refine a_pure (Pe.name rfl rfl) (a_nil ⟨_, _, _, f_lc_both hbase tw u1 (G % 13 + 1) (TN (G % 20)) (Wv % 20) (HN (Wv / 20)) wu1 wu2 u2 u3 jd hmG.2 hmW.2 hj0, hno', List.forall_mem_cons.mpr ⟨by k_mem, List.forall_mem_cons.mpr ⟨by k_mem, fun _ h => nomatch h⟩⟩, fun pv own h => ?_⟩)
    obtain ⟨rfl, h | h⟩ := nb_ok G0 G1 Wv0 Wv1 hF h
    · obtain ⟨K, rfl, rfl⟩ := h
      exact x_ifexp (t_cmp (x_pure (Pe.name rfl rfl) (x_pure Pe.none ⟨false, cp_is_int _, (fun h => nomatch h), fun _ => x_pure (Pe.bin (Pe.name rfl rfl) (Pe.name rfl rfl) (Ar.add _ _)) ⟨false, cp_ne_self _, rfl, (by intro q hq; repeat (first | exact hq | refine List.Mem.tail _ ?_))⟩⟩)))
    · obtain ⟨rfl, rfl⟩ := h
      exact x_ifexp (t_cmp (x_pure (Pe.name rfl rfl) (x_pure Pe.none ⟨true, cp_is_none, (fun _ => x_pure Pe.str ⟨false, cp_ne_sself _, rfl, (by intro q hq; repeat (first | exact hq | refine List.Mem.tail _ ?_))⟩), fun h => nomatch h⟩)))
  clear hF
  -- other
  refine b_assign (kind_of hcs rfl) (x_item (x_fn0 f_law_months (by k_is) (room.mono (by decide)) (fun _ h => h.elim) ?_))
  rintro _ _ ⟨tm, vm, rfl, hvm, rfl⟩
  refine x_bin (x_bin (x_pure (Pe.bin (Pe.bin (Pe.name rfl rfl) Pe.int (Ar.div _ _ (by decide))) Pe.int (Ar.add _ _)) (x_bin (x_absc l1 l2 l3 3 (room.mono (by decide)) (kind_of hcs rfl) (kind_of hcs rfl) rfl (by first | exact hm0 | exact .tail _ hm0 | exact .tail _ (.tail _ hm0) | exact .tail _ (.tail _ (.tail _ hm0)) | exact .tail _ (.tail _ (.tail _ (.tail _ hm0)))) (x_pure Pe.int ⟨_, _, _, rfl, rfl, Ar.mod _ _ (by decide), ⟨_, _, _, rfl, rfl, Ar.add _ _, x_pure Pe.int ⟨_, _, _, rfl, rfl, Ar.mod _ _ (by decide), ⟨tm, vm, haabs, _, rfl, .head _, hvm, by decide, rfl, ?_, ?_, ?_⟩⟩⟩⟩)))))
  · omega
  · show _ < 19; omega
  obtain ⟨Oo, hO⟩ : ∃ Oo, Oo = (HaC jd / 20 + 1 + absI (xs.getD 3 0) % 18) % 19 := ⟨_, rfl⟩
  have O0 : 0 ≤ Oo := by omega
  have O1 : Oo < 19 := by omega
  have On : Oo ≠ HaC jd / 20 := by omega
  rw [← hO, ← HN_eq]
  clear hO
  refine b_led hs (by intro q hq; repeat (first | exact hq | refine List.Mem.tail _ ?_)) ?_
  have hmO := hn_mem O0 O1
  have hOn : HN Oo ≠ HN (HaC jd / 20) := fun e => On (hn_inj O0 O1 (by omega) (by omega) e)
  have hidx : ((haabs.idxOf (HN Oo) : Nat) : Int) = Oo := by
    have := hn_idx ⟨Oo.toNat, by omega⟩
    rw [show (((⟨Oo.toNat, by omega⟩ : Fin 19).val : Nat) : Int) = Oo from Int.toNat_of_nonneg O0] at this
    rw [this]; exact Int.toNat_of_nonneg O0
  -- next_haab
  refine b_skip hs (t_cmp (x_fnC (f_lc_ha hbase (HN Oo) jd hmO.2 (fun _ => hOn)) (by k_is) (room.mono (by decide)) (fun _ h => h.elim) (a_pure Pe.str (a_pure Pe.none (a_pure (Pe.name rfl rfl) (a_pure (Pe.name rfl rfl) (a_nil ⟨rfl, (fun _ h => nomatch h), fun pv own h => ?_⟩))))))) ?_
  · obtain ⟨rfl, rfl⟩ := nh_ok O0 O1 hj0 h
    refine x_bin (x_pure (Pe.name rfl rfl) (x_bin (x_bin (x_bin (x_bin (x_pure Pe.int (x_index (by cases c; cases hcs; exact ⟨_, rfl⟩) (x_fn0 f_law_months (by k_is) (room.mono (by decide)) (fun _ h => h.elim) ?_))))))))
    rintro _ _ ⟨tm, vm, rfl, hvm, rfl⟩
    refine ⟨tm, _, vm, haabs, rfl, .head _, rfl, hvm, by decide, x_pure (Pe.name rfl rfl) ⟨.head _, _, rfl, (names_len _ hmO.2).1, ?_, ⟨_, _, _, rfl, rfl, Ar.mul _ _ (IntMulOk.of_left (by decide)), x_pure Pe.int ⟨_, _, _, rfl, rfl, Ar.add _ _, x_pure (Pe.name rfl rfl) ⟨_, _, _, rfl, rfl, Ar.sub _ _, x_pure Pe.int ⟨_, _, _, rfl, rfl, Ar.mod _ _ (by decide), ⟨_, _, _, rfl, rfl, Ar.add _ _, false, ?_, rfl, (by intro q hq; repeat (first | exact hq | refine List.Mem.tail _ ?_))⟩⟩⟩⟩⟩⟩⟩
    · exact List.idxOf_lt_length_iff.mpr hmO.1
    · rw [hidx]; exact cp_ne_self _
  -- month_length
  refine b_skip hs (t_cmp (x_fn (f_month_length (HN Oo)) (by k_is) (room.mono (by decide)) (fun _ h => h.elim) (a_pure (Pe.name rfl rfl) (a_nil ⟨rfl, (fun _ h => nomatch h), ?_⟩)))) ?_
  · rintro _ _ ⟨rfl, rfl⟩
    refine x_ifexp (t_cmp (x_pure (Pe.name rfl rfl) (x_pure Pe.str ⟨_, cp_eq_str _ _, fun e => x_pure Pe.int ⟨false, ?_, rfl, (by intro q hq; repeat (first | exact hq | refine List.Mem.tail _ ?_))⟩, fun e => x_pure Pe.int ⟨false, ?_, rfl, (by intro q hq; repeat (first | exact hq | refine List.Mem.tail _ ?_))⟩⟩)))
    · rw [if_pos (eq_of_beq e)]; exact cp_ne_self _
    · rw [if_neg (by simpa using e)]; exact cp_ne_self _
  -- many
  refine b_assign (kind_of hcs rfl) (x_min (by k_is) (a_cons (x_bin (x_pure Pe.int (x_bin (x_absc l1 l2 l3 4 (room.mono (by decide)) (kind_of hcs rfl) (kind_of hcs rfl) rfl (by first | exact hm0 | exact .tail _ hm0 | exact .tail _ (.tail _ hm0) | exact .tail _ (.tail _ (.tail _ hm0)) | exact .tail _ (.tail _ (.tail _ (.tail _ hm0)))) (x_pure Pe.int ⟨_, _, _, rfl, rfl, Ar.mod _ _ (by decide), ⟨_, _, _, rfl, rfl, Ar.add _ _, a_pure (Pe.bin Pe.int (Pe.name rfl rfl) (Ar.sub _ _)) (a_nil ⟨_, _, rfl, ?_⟩)⟩⟩)))))))
  obtain ⟨M, hM, M0, M1⟩ : ∃ M : Nat, (if 259 - TzC jd < 1 + absI (xs.getD 4 0) % 30 then 259 - TzC jd else 1 + absI (xs.getD 4 0) % 30) = (M : Int) ∧ (M : Int) ≤ 259 - TzC jd ∧ M ≤ 30 := by
    have := absI_nn (xs.getD 4 0)
    refine ⟨(if 259 - TzC jd < 1 + absI (xs.getD 4 0) % 30 then 259 - TzC jd else 1 + absI (xs.getD 4 0) % 30).toNat, ?_, ?_, ?_⟩ <;> split <;> omega
  rw [hM]
  clear hM
  have hid : ∀ i : Nat, TN ((TzC jd + (i : Int)) % 20) ∈ names := fun i => (tn_mem (by omega) (by omega)).2
  refine b_skip hs (t_andc (t_cmp (x_pure (Pe.name rfl rfl) (x_pure Pe.int ⟨_, cp_gt _ _, fun e => ⟨rfl, (by intro q hq; repeat (first | exact hq | refine List.Mem.tail _ ?_))⟩, fun e => t_andc (t_cmp (x_fn (f_first_of (TzC jd) M ht.1 ht.2 (by omega)) (by k_is) (room.mono (by decide)) (fun _ h => h.elim) (a_pure (Pe.name rfl rfl) (a_pure (Pe.name rfl rfl) (a_pure (Pe.name rfl rfl) (a_nil ⟨rfl, (fun _ h => nomatch h), ?_⟩))))))⟩)))) ?_
  · rintro _ _ ⟨told, lo, tvs, TT, rfl, rfl, hl, hd⟩
    rw [first_is ht.1 M0] at hd
    exact x_compf (r := c.L + 1) (q := TzC jd) (ca := fun i => (TzC jd + (i : Nat)) % 13 + 1) (cb := fun i => TN ((TzC jd + (i : Nat)) % 20)) (n := M) (fun i hi => f_law_tzolkin (TzC jd + i) (by omega)) (by k_is) (room.mono (by decide)) (by k_is) (kind_of hcs rfl) (kind_of hcs rfl) (by rw [hcl]; rfl) rfl (Pe.name rfl rfl) (by omega) (by cases c; cases hcs; dsimp only at hcl; subst hcl; with_unfolding_all rfl) (by decide) (by rfl) (by decide) (by rfl) (by intro C; cases c; cases hcs; rfl) (by intro C; cases c; cases hcs; rfl) (by intro C; cases c; cases hcs; rfl) (by decide) (by decide) (by decide) ⟨_, _, rfl, rfl⟩ (fun D o vs T hL hD => ⟨false, cp_ne_lists (.tail _ (List.mem_append_right _ (.head _))) (.head _) hl.lis hL hd hD (fun p hp => .tail _ (List.mem_append_right _ (.tail _ (List.mem_append_left _ hp)))) (fun p hp => .tail _ (List.mem_append_left _ hp)) (pairs_ok hid) room2, (fun _ => ⟨rfl, fun q hq => .tail _ (List.mem_append_right _ (.tail _ (List.mem_append_right _ hq)))⟩), fun h => nomatch h⟩)
  -- early
  refine b_assign (kind_of hcs rfl) (x_bin (x_pure Pe.int (x_bin (x_absc l1 l2 l3 5 (room.mono (by decide)) (kind_of hcs rfl) (kind_of hcs rfl) rfl (by first | exact hm0 | exact .tail _ hm0 | exact .tail _ (.tail _ hm0) | exact .tail _ (.tail _ (.tail _ hm0)) | exact .tail _ (.tail _ (.tail _ (.tail _ hm0)))) (x_pure Pe.int ⟨_, _, _, rfl, rfl, Ar.mod _ _ (by decide), ⟨_, _, _, rfl, rfl, Ar.sub _ _, ?_⟩⟩)))))
  obtain ⟨ea, hea, hea1⟩ : ∃ ea, ea = 584282 - absI (xs.getD 5 0) % 10000 ∧ ea < 584283 := ⟨_, rfl, by omega⟩
  rw [← hea]
  clear hea
  refine b_skip hs (t_orc (t_cmp (x_fnC (f_lc_tz hbase tw (G % 13 + 1) (TN (G % 20)) wu1 wu2 ea hmG.2) (by k_is) (room.mono (by decide)) (fun _ h => h.elim) (a_pure Pe.str (a_pure (Pe.name rfl rfl) (a_pure Pe.none (a_pure (Pe.name rfl rfl) (a_nil ⟨rfl, List.forall_mem_cons.mpr ⟨by k_mem, fun _ h => nomatch h⟩, fun pv own h => ?_⟩)))))))) ?_
  · obtain ⟨rfl, rfl⟩ := nt_index (.inl hea1) h
    refine x_pure Pe.str ⟨false, cp_ne_sself _, (fun h => nomatch h), fun _ => t_orc (t_cmp (x_fnC (f_lc_ha hbase (HN Oo) ea hmO.2 (fun h => absurd h (by omega))) (by k_is) (room.mono (by decide)) (fun _ h => h.elim) (a_pure Pe.str (a_pure Pe.none (a_pure (Pe.name rfl rfl) (a_pure (Pe.name rfl rfl) (a_nil ⟨rfl, (fun _ h => nomatch h), fun pv own h => ?_⟩)))))))⟩
    obtain ⟨rfl, rfl⟩ := nh_index hea1 h
    refine x_pure Pe.str ⟨false, cp_ne_sself _, (fun h => nomatch h), fun _ => t_orc (t_cmp (x_fnC (f_lc_day hbase ea hea1) (by k_is) (room.mono (by decide)) (fun _ h => h.elim) (a_pure Pe.str (a_pure Pe.none (a_pure Pe.none (a_pure (Pe.name rfl rfl) (a_nil ⟨rfl, (fun _ h => nomatch h), fun pv own h => ?_⟩)))))))⟩
    obtain ⟨rfl, rfl⟩ := fd_value h
    exact x_pure Pe.str ⟨false, cp_ne_sself _, (fun h => nomatch h), fun _ => t_orn ⟨rfl, (by intro q hq; repeat (first | exact hq | refine List.Mem.tail _ ?_))⟩⟩
  -- odd
  refine b_assign (kind_of hcs rfl) (x_itemL (x_list (a_pure Pe.int (a_pure Pe.int (a_pure (Pe.neg Pe.int) (a_cons (x_bin (x_pure Pe.int (x_absc l1 l2 l3 6 (room.mono (by decide)) (kind_of hcs rfl) (kind_of hcs rfl) rfl (by first | exact hm0 | exact .tail _ hm0 | exact .tail _ (.tail _ hm0) | exact .tail _ (.tail _ (.tail _ hm0)) | exact .tail _ (.tail _ (.tail _ (.tail _ hm0)))) (⟨_, _, _, rfl, rfl, Ar.add _ _, a_nil ⟨(show 4 < 100 by decide), fun t4 vs4 h4 => ?_⟩⟩))))))))))
  obtain ⟨v1, _, rfl, i1, v2, _, rfl, i2, v3, _, rfl, i3, v4, _, rfl, i4, rfl⟩ := h4
  have hod : ∃ v od, [v1, v2, v3, v4][(xs.getD 6 0 % 4).toNat]? = some v ∧ PV.Is (.int od) v ∧ (od < 1 ∨ 13 < od) := by
    have h4 : xs.getD 6 0 % 4 = 0 ∨ xs.getD 6 0 % 4 = 1 ∨ xs.getD 6 0 % 4 = 2 ∨ xs.getD 6 0 % 4 = 3 := by omega
    have := absI_nn (xs.getD 6 0)
    rcases h4 with h | h | h | h <;> rw [h]
    · exact ⟨v1, 0, rfl, i1, .inl (by decide)⟩
    · exact ⟨v2, 14, rfl, i2, .inr (by decide)⟩
    · exact ⟨v3, -1, rfl, i3, .inl (by decide)⟩
    · exact ⟨v4, _, rfl, i4, .inr (by omega)⟩
  obtain ⟨v, od, ho1, ho2, ho3⟩ := hod
  refine x_bin (x_cellc l1 l2 l3 6 (room.mono (by decide)) (kind_of hcs rfl) rfl (by first | exact hm0 | exact .tail _ hm0 | exact .tail _ (.tail _ hm0) | exact .tail _ (.tail _ (.tail _ hm0)) | exact .tail _ (.tail _ (.tail _ (.tail _ hm0)))) (x_pure Pe.int ⟨_, _, _, rfl, rfl, Ar.mod _ _ (by decide), ⟨t4, listOf [v1, v2, v3, v4].toArray 0, [v1, v2, v3, v4], _, v, .int od, rfl, .head _, ⟨rfl, _, rfl⟩, (show 4 < 1000 by decide), rfl, Int.emod_nonneg _ (by decide), ho1, ho2, b_led hs (by intro q hq; repeat (first | exact hq | refine List.Mem.tail _ ?_)) ?_⟩⟩))
  clear ho1 ho2 i1 i2 i3 i4
  refine b_skip hs (t_orc (t_cmp (x_fnD (fa := 192) (k := 8) (by k_is) (room.mono (by decide)) (a_pure Pe.str (a_cons (x_tuple (a_pure (Pe.name rfl rfl) (a_cons (x_pair (k := 1) (x_pure (Pe.name rfl rfl) ⟨tw, _, _, .str (TN (G % 20)), rfl, by k_mem, by decide, rfl, ⟨_, rfl⟩, a_nil ⟨(show 2 < 100 by decide), fun t vs h => ?_⟩⟩)))))))))) ?_
  · obtain ⟨_, _, rfl, ⟨k1, rfl⟩, _, _, rfl, ⟨k2, rfl⟩, rfl⟩ := h
    refine a_pure Pe.none (a_pure (Pe.name rfl rfl) (a_nil ⟨_, _, _, f_lc_tz hbase t od (TN (G % 20)) k1 k2 jd hmG.2, hno', List.forall_mem_cons.mpr ⟨.head _, fun _ h => nomatch h⟩, fun pv own h => ?_⟩))
    obtain ⟨rfl, rfl⟩ := nt_index (.inr ho3) h
    refine x_pure Pe.str ⟨false, cp_ne_sself _, (fun h => nomatch h), fun _ => t_orc (t_cmp (x_fnD (fa := 192) (k := 8) (by k_is) (room.mono (by decide)) (a_pure Pe.str (a_cons (x_tuple (a_cons (x_pair (k := 0) (x_pure (Pe.name rfl rfl) ⟨tw, _, _, .int (G % 13 + 1), rfl, by k_mem, by decide, rfl, ⟨_, rfl⟩, a_pure Pe.str (a_nil ⟨(show 2 < 100 by decide), fun t vs h => ?_⟩)⟩))))))))⟩
    obtain ⟨_, _, rfl, ⟨k1, rfl⟩, _, _, rfl, ⟨k2, rfl⟩, rfl⟩ := h
    refine a_pure Pe.none (a_pure (Pe.name rfl rfl) (a_nil ⟨_, _, _, f_lc_tz hbase t (G % 13 + 1) (Str.ofString "Pop") k1 k2 jd pop_no.2.1, hno', List.forall_mem_cons.mpr ⟨.head _, fun _ h => nomatch h⟩, fun pv own h => ?_⟩))
    obtain ⟨rfl, rfl⟩ := nt_value hj0 (by omega) (by omega) pop_no.1 h
    exact x_pure Pe.str ⟨false, cp_ne_sself _, (fun h => nomatch h), fun _ => t_orn ⟨rfl, (by intro q hq; repeat (first | exact hq | refine List.Mem.tail _ ?_))⟩⟩
  -- days that are none
  have hX7 := absI_nn (xs.getD 7 0)
  refine b_skip hs (t_cmp (x_fnD (fa := 192) (k := 9) (by k_is) (room.mono (by decide)) (a_pure Pe.str (a_pure (Pe.name rfl rfl) (a_cons (x_tuple (a_cons (x_bin (x_pure (Pe.neg Pe.int) (x_absc l1 l2 l3 7 (room.mono (by decide)) (kind_of hcs rfl) (kind_of hcs rfl) rfl (by first | exact hm0 | exact .tail _ hm0 | exact .tail _ (.tail _ hm0) | exact .tail _ (.tail _ (.tail _ hm0)) | exact .tail _ (.tail _ (.tail _ (.tail _ hm0)))) (⟨_, _, _, rfl, rfl, Ar.sub _ _, a_pure (Pe.name rfl rfl) (a_nil ⟨(show 2 < 100 by decide), fun t vs h => ?_⟩)⟩))))))))))) ?_
  · obtain ⟨_, _, rfl, ⟨k1, rfl⟩, _, _, rfl, ⟨k2, rfl⟩, rfl⟩ := h
    refine a_pure (Pe.name rfl rfl) (a_nil ⟨_, _, _, f_lc_both hbase tw t (G % 13 + 1) (TN (G % 20)) (-1 - absI (xs.getD 7 0)) (HN Oo) wu1 wu2 k1 k2 jd hmG.2 hmO.2 hj0, hno', List.forall_mem_cons.mpr ⟨by k_mem, List.forall_mem_cons.mpr ⟨.head _, fun _ h => nomatch h⟩⟩, fun pv own h => ?_⟩)
    obtain ⟨rfl, rfl⟩ := nb_index (.inl (by omega)) h
    exact x_pure Pe.str ⟨false, cp_ne_sself _, rfl, (by intro q hq; repeat (first | exact hq | refine List.Mem.tail _ ?_))⟩
  refine b_skip hs (t_orc (t_cmp (x_fnD (fa := 192) (k := 9) (by k_is) (room.mono (by decide)) (a_pure Pe.str (a_pure (Pe.name rfl rfl) (a_cons (x_tuple (a_cons (x_bin (x_pure Pe.int (x_absc l1 l2 l3 7 (room.mono (by decide)) (kind_of hcs rfl) (kind_of hcs rfl) rfl (by first | exact hm0 | exact .tail _ hm0 | exact .tail _ (.tail _ hm0) | exact .tail _ (.tail _ (.tail _ hm0)) | exact .tail _ (.tail _ (.tail _ (.tail _ hm0)))) (⟨_, _, _, rfl, rfl, Ar.add _ _, a_pure (Pe.name rfl rfl) (a_nil ⟨(show 2 < 100 by decide), fun t vs h => ?_⟩)⟩)))))))))))) ?_
  · obtain ⟨_, _, rfl, ⟨k1, rfl⟩, _, _, rfl, ⟨k2, rfl⟩, rfl⟩ := h
    refine a_pure (Pe.name rfl rfl) (a_nil ⟨_, _, _, f_lc_both hbase tw t (G % 13 + 1) (TN (G % 20)) (20 + absI (xs.getD 7 0)) (HN Oo) wu1 wu2 k1 k2 jd hmG.2 hmO.2 hj0, hno', List.forall_mem_cons.mpr ⟨by k_mem, List.forall_mem_cons.mpr ⟨.head _, fun _ h => nomatch h⟩⟩, fun pv own h => ?_⟩)
    obtain ⟨rfl, rfl⟩ := nb_index (.inr (by omega)) h
    refine x_pure Pe.str ⟨false, cp_ne_sself _, (fun h => nomatch h), fun _ => t_orc (t_cmp (x_fnD (fa := 192) (k := 9) (by k_is) (room.mono (by decide)) (a_pure Pe.str (a_pure (Pe.name rfl rfl) (a_cons (x_tuple (a_pure Pe.int (a_pure Pe.str (a_nil ⟨(show 2 < 100 by decide), fun t vs h => ?_⟩)))))))))⟩
    obtain ⟨_, _, rfl, ⟨k1, rfl⟩, _, _, rfl, ⟨k2, rfl⟩, rfl⟩ := h
    refine a_pure (Pe.name rfl rfl) (a_nil ⟨_, _, _, f_lc_both hbase tw t (G % 13 + 1) (TN (G % 20)) (1) (Str.ofString "Ik'") wu1 wu2 k1 k2 jd hmG.2 pop_no.2.2.2.1 hj0, hno', List.forall_mem_cons.mpr ⟨by k_mem, List.forall_mem_cons.mpr ⟨.head _, fun _ h => nomatch h⟩⟩, fun pv own h => ?_⟩)
    obtain ⟨rfl, rfl⟩ := nb_value (by decide) (by decide) (by omega) (by omega) pop_no.2.2.1 h
    exact x_pure Pe.str ⟨false, cp_ne_sself _, (fun h => nomatch h), fun _ => t_orn ⟨rfl, (by intro q hq; repeat (first | exact hq | refine List.Mem.tail _ ?_))⟩⟩
  -- the end
  refine b_return (x_cmp (x_fnC (f_lc_ha hbase (Str.ofString "Imix'") jd pop_no.2.2.2.2.2 (fun _ e => pop_no.2.2.2.2.1 (by rw [e]; exact hmH.1))) (by k_is) (room.mono (by decide)) (fun _ h => h.elim) (a_pure Pe.str (a_pure Pe.none (a_pure Pe.str (a_pure (Pe.name rfl rfl) (a_nil ⟨rfl, (fun _ h => nomatch h), fun pv own h => ?_⟩)))))))
  obtain ⟨rfl, rfl⟩ := nh_value hj0 pop_no.2.2.2.2.1 h
  refine x_pure Pe.str ⟨true, ?_, ends_of hpost (own := []) rfl fun p hp => .tail _ hp⟩
  have := cp_eq_str (W := W) (c := c) (led := [(tw, Tup #[.int (G % 13 + 1) wu1, .str (TN (G % 20)) wu2])] ++ c.led₀) (Str.ofString "value") (Str.ofString "value")
  rw [beq_self_eq_true] at this
  exact this
end Mine
set_option maxRecDepth 100000
namespace Mine
/-- no list of ints -/
def okK (o : Obj) : Bool := match o.data with
  | .seq vs _ => (match vs.toList with | .str _ _ :: _ => true | _ => match o.cls with | .type t => t != "list" | _ => true)
  | _ => true
theorem ok_all (p : Params) : (hd.heap_39 p).all (fun q => okK q.2) = true := by kernel_rfl
theorem ok_lis {o : Obj} {vs : List Value} {xs : List Int} (h1 : LisO o vs) (h2 : IntsAre vs xs) : okK o = false := by
  obtain ⟨hc, n, hd⟩ := h1
  unfold okK
  rw [hd, hc]
  cases h2 with
  | nil => rfl
  | cons n u h => rfl
theorem mem_of_look {α : Type} : ∀ {l : List (Addr × α)} {a : Addr} {o : α}, l.lookup a = some o → (a, o) ∈ l
  | (b, u) :: r, a, o, h => by
    rw [List.lookup_cons] at h
    cases q : a == b with
    | true => rw [q] at h; cases h; rw [eq_of_beq q]; exact .head _
    | false => rw [q] at h; exact .tail _ (mem_of_look h)
theorem k_hide {p : Params} {h : Heap} {sc : Addr} {oS : Obj} (X : (hd.heap_39 p).In h) (e : h.get? sc = some oS) (hk : okK oS = false) : (hd.heap_39 p).In (hideAll h [95, 124, sc]) := by
  intro a o ho
  refine hideAll_get _ (X a o ho) fun hm => ?_
  simp only [List.mem_cons, List.not_mem_nil, or_false] at hm
  rcases hm with rfl | rfl | rfl
  · have : (hd.heap_39 p).lookup 95 = none := rfl
    rw [this] at ho; cases ho
  · have : (hd.heap_39 p).lookup 124 = none := rfl
    rw [this] at ho; cases ho
  · have := List.all_eq_true.mp (ok_all p) _ (mem_of_look ho)
    have e2 := X _ _ ho
    rw [e] at e2
    cases e2
    rw [hk] at this
    cases this
theorem ns_hide {h : Heap} {a : Addr} {m : Str → Option Value} {D : List Addr} (n : h.Ns a m) (nd : ∀ b ∈ D, ∀ o, h.get? b = some o → (∀ es ep, o.data ≠ .dict es ep) ∧ o.data ≠ .plain) : (hideAll h D).Ns a m := by
  obtain ⟨o, es, ep, e, hd, r⟩ := n
  exact ⟨o, es, ep, hideAll_get _ e fun hm => (nd _ hm _ e).1 es ep hd, hd, r⟩
theorem in_loose : ((looseW hd.view_39 ["HAAB", "TZOLKIN", "tzolkin_generator"]) ++ (recsOf hd.view_39).map (·.name) ++ (litsOf hd.view_39).map (·.1) ++ (clssOf hd.view_39 (looseW hd.view_39 ["HAAB", "TZOLKIN", "tzolkin_generator"])).map (·.name)).all (fun x => loose0.contains x) = true := by kernel_rfl
theorem top_hide {mean : ExcName → Option Value} {mg mb : Str → Option Value} {h : Heap} {D : List Addr} (T : Top hd.view_39 (looseW hd.view_39 ["HAAB", "TZOLKIN", "tzolkin_generator"]) mean mg mb h) (nd : ∀ b ∈ D, ∀ o, h.get? b = some o → (∀ es ep, o.data ≠ .dict es ep) ∧ o.data ≠ .plain)
    (hs : h.NoSeer) : Top p0 loose0 mean mg mb (hideAll h D) where
  g := ns_hide T.g nd
  b := ns_hide T.b nd
  nolimit := let ⟨mc, a, b⟩ := T.nolimit; ⟨mc, ns_hide a nd, b⟩
  nodigits := let ⟨mc, a, b⟩ := T.nodigits; ⟨mc, ns_hide a nd, b⟩
  fn := fun d hd => nomatch hd
  own := fun d hd => nomatch hd
  const := fun x d hd => nomatch hd
  free := fun x h1 h2 _ _ _ => by
    have key : ∀ y ∈ ((looseW hd.view_39 ["HAAB", "TZOLKIN", "tzolkin_generator"]) ++ (recsOf hd.view_39).map (·.name) ++ (litsOf hd.view_39).map (·.1) ++ (clssOf hd.view_39 (looseW hd.view_39 ["HAAB", "TZOLKIN", "tzolkin_generator"])).map (·.name)), y ≠ x := fun y hy e => by
      have := List.all_eq_true.mp in_loose y hy
      rw [e] at this
      exact h2 (List.contains_iff_mem.mp this)
    refine T.free x h1 (fun hm => ?_) (fun hm => ?_) (fun hm => ?_) fun hm => ?_
    · exact key x (List.mem_append_left _ (List.mem_append_left _ (List.mem_append_left _ hm))) rfl
    · exact key x (List.mem_append_left _ (List.mem_append_left _ (List.mem_append_right _ hm))) rfl
    · exact key x (List.mem_append_left _ (List.mem_append_right _ hm)) rfl
    · exact key x (List.mem_append_right _ hm) rfl
  builtins := T.builtins
  tab := fun d hd => nomatch hd
  bmain := let ⟨bm, ob, a, b, c, d, e, f⟩ := T.bmain; ⟨bm, ob, a, b, hideAll_get _ c fun hm => (nd _ hm _ c).2 f, d, e, f⟩
  seer := fun _ => ⟨let ⟨mc, a, b⟩ := hs.statics; ⟨mc, ns_hide a nd, b⟩, let ⟨mm, a, b⟩ := hs.mods; ⟨mm, ns_hide a nd, b⟩, let ⟨mb, a, b⟩ := hs.imp; ⟨mb, ns_hide a nd, b⟩, let ⟨bm, ob, a, b, c, d, e, f⟩ := T.bmain; ⟨mg, bm, ob, ns_hide T.g nd, a, hideAll_get _ c fun hm => (nd _ hm _ c).2 f, d, e⟩⟩
theorem has_rec : ((recsOf hd.view_39).any fun d => d.name == "_tzolkin_count") = true ∧ ((recsOf hd.view_39).any fun d => d.name == "next_tzolkin_haab") = true ∧ importsNone hd.view_39 = true := ⟨by kernel_rfl, by kernel_rfl, by kernel_rfl⟩
theorem tab_at {p : Params} {mean : ExcName → Option Value} {mg mb : Str → Option Value} {h : Heap} {loose : List Str} {f : Str} {a c P : Addr} {fo co : Obj} {fd : FuncData} {cvs : Array Value} (X : (hd.heap_39 p).In h) (T : Top hd.view_39 loose mean mg mb h) (hr : ((recsOf hd.view_39).any fun d => d.name == f) = true)
    (e : nsIn (hd.heap_39 p) mainGlobals f = some (some (.ref a))) (hf : (hd.heap_39 p).lookup a = some fo) (hfd : fo.data = .func fd) (hcd : fd.code = .ref c) (hc : (hd.heap_39 p).lookup c = some co) (hcv : co.data = .fields cvs) (hP : cvs.getD 11 .none = .ref P) : h.get? P = some (tabO #[]) ∧ isCodeTable h P := by
  obtain ⟨d, hd, hn⟩ := List.any_eq_true.mp hr
  obtain ⟨a', o, fd', c', P', m1, m2, m3, m4, m5, m6⟩ := T.tab d hd
  rw [eq_of_beq hn, mg_of X T.g e] at m1
  cases m1
  rw [X _ _ hf] at m2
  cases m2
  rw [hfd] at m3
  cases m3
  rw [hcd] at m4
  cases m4
  obtain ⟨o2, vs2, _, _, _, _, _, _, _, op, n1, n2, n3, _⟩ := m5
  rw [X _ _ hc] at n1
  cases n1
  rw [hcv] at n2
  cases n2
  rw [hP] at n3
  cases n3
  exact ⟨m6.2, m6.isCodeTable⟩
theorem tabs_at {p : Params} {mean : ExcName → Option Value} {mg mb : Str → Option Value} {h : Heap} {loose : List Str} (X : (hd.heap_39 p).In h) (T : Top hd.view_39 loose mean mg mb h) : (h.get? 95 = some (tabO #[]) ∧ isCodeTable h 95) ∧ (h.get? 124 = some (tabO #[]) ∧ isCodeTable h 124) :=
  ⟨tab_at X T has_rec.1 (by k_is) rfl rfl rfl rfl rfl rfl, tab_at X T has_rec.2.1 (by k_is) rfl rfl rfl rfl rfl rfl⟩
/-- what stands in the old heap when the law has returned -/
theorem old_k {h h' : Heap} {sc : Addr} {oS : Obj} {q1 q2 : Array Value} (e1 : h.get? 95 = some (tabO #[]) ∧ isCodeTable h 95) (e2 : h.get? 124 = some (tabO #[]) ∧ isCodeTable h 124) (e3 : h.get? sc = some oS) (f1 : h'.get? 95 = some (tabO q1)) (f2 : h'.get? 124 = some (tabO q2)) (f3 : h'.get? sc = some oS)
    (k : ∀ b o, (hideAll h [95, 124, sc]).get? b = some o → h'.get? b = some o) : OldK h h' := by
  have key : ∀ b o, h.get? b = some o → (h'.get? b = some o) ∨ (isCodeTable h b ∧ o.cls = .none ∧ ∃ vs more, o.data = .fields vs ∧ h'.get? b = some { o with data := .fields (vs ++ more) }) := by
    intro b o e
    by_cases hm : b ∈ [95, 124, sc]
    · simp only [List.mem_cons, List.not_mem_nil, or_false] at hm
      rcases hm with rfl | rfl | rfl
      · rw [e1.1] at e; cases e
        exact .inr ⟨e1.2, rfl, #[], q1, rfl, by rw [f1, Array.empty_append]⟩
      · rw [e2.1] at e; cases e
        exact .inr ⟨e2.2, rfl, #[], q2, rfl, by rw [f2, Array.empty_append]⟩
      · rw [e3] at e; cases e
        exact .inl f3
    · exact .inl (k _ _ (hideAll_get _ e hm))
  refine ⟨fun b o e => ?_, fun b o e => ?_⟩
  · rcases key b o e with h1 | h1
    · exact .inl h1
    · exact .inr (.inl h1)
  · rcases key b o e with h1 | ⟨_, _, vs, more, _, h1⟩
    · exact ⟨_, h1⟩
    · exact ⟨_, h1⟩
end Mine
set_option maxRecDepth 100000
namespace Mine
theorem ne_of {h : Heap} {sc P : Addr} {oS : Obj} {vs : List Value} (e3 : h.get? sc = some oS) (hP : h.get? P = some (tabO #[])) (hl : LisO oS vs) : sc ≠ P := fun e => by
  rw [← e, e3] at hP
  cases hP
  cases hl.1
theorem nd_of {h : Heap} {sc : Addr} {oS : Obj} {vs : List Value} (t1 : h.get? 95 = some (tabO #[])) (t2 : h.get? 124 = some (tabO #[])) (e3 : h.get? sc = some oS) (hl : LisO oS vs) : ∀ b ∈ [95, 124, sc], ∀ o, h.get? b = some o → (∀ es ep, o.data ≠ .dict es ep) ∧ o.data ≠ .plain := by
  obtain ⟨_, n, hdS⟩ := hl
  intro b hb o e
  simp only [List.mem_cons, List.not_mem_nil, or_false] at hb
  rcases hb with rfl | rfl | rfl
  · rw [t1] at e; cases e
    exact ⟨fun _ _ h => (by cases h), fun h => (by cases h)⟩
  · rw [t2] at e; cases e
    exact ⟨fun _ _ h => (by cases h), fun h => (by cases h)⟩
  · rw [e3] at e; cases e
    exact ⟨fun _ _ h => (by rw [hdS] at h; cases h), fun h => (by rw [hdS] at h; cases h)⟩
set_option maxHeartbeats 4000000 in
theorem fin2 : PySem.Challenge.rw_ja0020_01.Holds := hd (by
  intro w s₀ s₁ mg mb G Y fa o pm cd doc dV kV ho hd' hcd hD hmg hg args vals as hpre hlay hrd hwl hlo
  have KX := kIn_of Y
  refine Ground.open G ?_
  intro T B D TE TW
  have hfa : fa = 204 := by
    have h1 := mg_of (n := "law") KX T.g (v := .ref 204) (by k_is)
    have h2 := h1.symm.trans hmg
    injection h2 with h2
    injection h2 with h2
    exact h2.symm
  subst hfa
  clear D TE TW B hd' hcd hD ho hmg Y
  wrow_args hpre hlay hrd hwl hlo
  rename Heap.IsList _ _ _ => hL
  rename IntsAre _ _ => hI
  rename ¬ _ => hcond
  obtain ⟨oS, e3, hcS, nS, hdS⟩ := hL
  have hl : LisO oS _ := ⟨hcS, nS, hdS⟩
  have hlen := intsAre_len hI
  obtain ⟨t1, t2⟩ := tabs_at KX T
  have nd := nd_of t1.1 t2.1 e3 hl
  refine law_runs (W := ⟨w, ExcName.means s₀.heap, mg, mb⟩) (q1 := #[]) (q2 := #[]) hl hI (by omega) trivial trivial t1.1 t2.1 e3 ⟨ne_of e3 t1.1 hl, ne_of e3 t2.1 hl⟩ (k_hide KX e3 (ok_lis hl hI)) (top_hide T nd (T.seer has_rec.2.2)) (by rw [hg]; exact ⟨fun _ h => by simp at h, List.nil_prefix⟩) ?_
  rintro m led L s' F ⟨q1, q2, u1, u2, off, N⟩ hm hG hos
  refine ⟨.inl ⟨.bool true, .bool true, [], rfl, ?_, ?_, ?_, ?_⟩, old_k t1 t2 e3 (N _ (.head _)).1 (N _ (.tail _ (.head _))).1 (N _ (.tail _ (.tail _ hm))).1 F.keep, hos, hG.1⟩
  · exact raisesW_false (by wrow_none_raised)
  · exact .bool true
  · exact postW_of (by wrow_shape) (by wtm_val) (by first | rfl | (str_meet; first | done | w_fin))
  · exact unshared_nil)
end Mine
theorem PySem.Challenge.cw_ja0020_01_holds : PySem.Challenge.rw_ja0020_01.Holds := by
  exact Mine.fin2
