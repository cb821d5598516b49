/- A part of the proof of this claim: lemmas of its own; what is proved, and on what conditions, the last text says. -/
import Derived.Test.YtfpckklhljbelaaGreatDoorSxE0
set_option linter.all false
namespace Go.Sx
open Go
variable [Syms]

def isStill : Op → Bool
  | .move _ => true
  | .assign _ => true
  | .nilCheck _ => true
  | .fieldAddr .. => true
  | .indexAddr .. => true
  | .makeFunc .. => true
  | .load .. => true
  | .lookup .. => true
  | _ => false

/-- An operation that leaves the world alone; which blocks its value hangs on. -/
def stillA (P : Program) (o : Op) (ρ : Operand → AVal) (H : AHeap) (K : AVal → List Nat → Prop) : Prop :=
  match o with
  | .move x => K (ρ x) []
  | .assign x => K (ρ x) []
  | .nilCheck x => nilA P (ρ x) (fun v => K v [])
  | .fieldAddr s x f => fieldAddrA P s (ρ x) f (fun v => K v [])
  | .indexAddr t x i => indexAddrA P t (ρ x) (ρ i) (fun v => K v [])
  | .makeFunc f a b => K (.fn f (a.toList.map ρ) (b.toList.map ρ)) []
  | .load t a => match ρ a with
    | .ptr id off => loadA P t (.ptr id off) H (fun v _ => K v [id])
    | _ => False
  | .lookup t m k ok => match ρ m with
    | .map id => lookupA P t (.map id) (ρ k) ok H (fun v => K v [id])
    | _ => False
  | _ => False

def dedupN : List Nat → List Nat
  | [] => []
  | x :: r => cond (hasN (dedupN r) x) (dedupN r) (x :: dedupN r)
theorem hasN_mem : ∀ {l : List Nat} {i : Nat}, hasN l i = true → i ∈ l
  | [], _, h => by cases h
  | x :: r, i, h => by
    simp only [hasN] at h
    cases hb : Nat.beq x i with
    | true => rw [Nat.eq_of_beq_eq_true hb]; exact List.mem_cons_self ..
    | false => rw [hb, cond_false] at h; exact List.mem_cons_of_mem _ (hasN_mem h)
theorem mem_dedupN : ∀ {l : List Nat} {i : Nat}, i ∈ l → i ∈ dedupN l
  | x :: r, i, h => by
    simp only [dedupN]
    rcases List.mem_cons.1 h with rfl | h
    · cases hb : hasN (dedupN r) i with
      | true => exact hasN_mem hb
      | false => exact List.mem_cons_self ..
    · have := mem_dedupN h
      cases hb : hasN (dedupN r) x with
      | true => exact this
      | false => exact List.mem_cons_of_mem _ this
def heldFor (ops : Array Oper) (j : Nat) (T : List (Nat × Nat)) : List Nat := dedupN ((T.filter fun x => !(afterOf ops j).contains x.1).map (·.2))
def pastT (ops : Array Oper) (j : Nat) (T : List (Nat × Nat)) : List (Nat × Nat) := T.filter fun x => !(afterOf ops j).contains x.1

def pickA (ops : Array Oper) (listed : Array Bool) : List Nat → Option (Nat × Oper)
  | [] => none
  | i :: r => match ops[i]? with
    | some o => cond (isStill o.op && Region.free .any ops listed i) (some (i, o)) (pickA ops listed r)
    | none => pickA ops listed r

def allA : List Nat → (Nat → Prop) → Prop
  | [], _ => True
  | [j], f => f j
  | j :: r, f => f j ∧ allA r f

def drawA (P : Program) (cx : CallX) (ops : Array Oper) : Nat → Array Bool → List (Nat × Nat) → Fr → AHeap → (Fr → AHeap → Prop) → Prop
  | 0, listed, _, fr, H, K => match Region.ready .any ops listed with
    | [] => K fr H
    | _ :: _ => False
  | n + 1, listed, T, fr, H, K => match Region.ready .any ops listed with
    | [] => K fr H
    | r :: rs => match pickA ops listed (r :: rs) with
      | some (i, o) => wantA ops.toList o fr
        (fun fr => stillA P o.op (eva fr) H (fun v ids => drawA P cx ops n (listed.setIfInBounds i true) (ids.map (fun id => (i, id)) ++ T) (putA fr o.dst v) H K))
        (fun fr => drawA P cx ops n (listed.setIfInBounds i true) T (putA fr o.dst undefA) H K)
      | none => allA (r :: rs) (fun j => match ops[j]? with
        | some o => wantA ops.toList o fr
          (fun fr => opA P cx o.op (eva fr) ((delAll (heldFor ops j T) H).withD []) (fun v H' => gd (eqN H'.ros H.ros) (drawA P cx ops n (listed.setIfInBounds j true) (pastT ops j T) (putA fr o.dst v) (joinH H (heldFor ops j T) H') K)))
          (fun fr => drawA P cx ops n (listed.setIfInBounds j true) (pastT ops j T) (putA fr o.dst undefA) H K)
        | none => False)

section
variable {P : Program} {w0 w : World} {F0 : Fp} {ι : Inj} {H : AHeap}

theorem allA_out : ∀ {l : List Nat} {f : Nat → Prop}, allA l f → ∀ j ∈ l, f j
  | [], _, _, j, hj => by cases hj
  | [i], f, h, j, hj => by
    rw [List.mem_singleton] at hj
    subst hj; exact h
  | i :: k :: r, f, h, j, hj => by
    rcases List.mem_cons.1 hj with rfl | hj
    · exact h.1
    · exact allA_out h.2 j hj

theorem pickA_out {ops : Array Oper} {listed : Array Bool} {i : Nat} {o : Oper} : ∀ {l : List Nat}, pickA ops listed l = some (i, o) → i ∈ l ∧ ops[i]? = some o ∧ Region.free .any ops listed i = true
  | [], h => by cases h
  | k :: r, h => by
    simp only [pickA] at h
    split at h
    · rename_i o' ho
      cases hc : (isStill o'.op && Region.free .any ops listed k) with
      | true =>
        rw [hc, cond_true] at h
        cases h
        simp only [Bool.and_eq_true] at hc
        exact ⟨List.mem_cons_self .., ho, hc.2⟩
      | false =>
        rw [hc, cond_false] at h
        obtain ⟨h1, h2⟩ := pickA_out h
        exact ⟨List.mem_cons_of_mem _ h1, h2⟩
    · obtain ⟨h1, h2⟩ := pickA_out h
      exact ⟨List.mem_cons_of_mem _ h1, h2⟩

/-- What was read early, and where. -/
def TOk (ι : Inj) (H : AHeap) (w : World) (T : List (Nat × Nat)) (L : Held) : Prop :=
  ∀ x ∈ L, (∀ w', x.2 w') ∨ ∃ id r o b, (x.1, id) ∈ T ∧ ι id = some r ∧ H.get id = some b ∧ w.heap[r]? = some o ∧ ∀ w' : World, w'.heap[r]? = some o → x.2 w'
theorem TOk.now {T : List (Nat × Nat)} {L : Held} (h : TOk ι H w T L) : ∀ x ∈ L, x.2 w := fun x hx => by
  rcases h x hx with h | ⟨id, r, o, b, _, _, _, ho, h⟩
  · exact h w
  · exact h w ho

theorem still_ok {o : Oper} {ρ : Operand → AVal} {σ : Operand → Value} {K : AVal → List Nat → Prop} (h : stillA P o.op ρ H K) (hi : Inv w0 F0 ι H w) (hd : ∀ x, Den ι (ρ x) (σ x)) :
    ∃ x v ids, ∃ S : World → Prop, Den ι x v ∧ K x ids ∧ S w ∧ (∀ w', S w' → (execOp σ o).run P w' = .ok (.value v) w') ∧
      ((∀ w', S w') ∨ ∃ id r ob b, ids = [id] ∧ ι id = some r ∧ H.get id = some b ∧ w.heap[r]? = some ob ∧ ∀ w' : World, w'.heap[r]? = some ob → S w') := by
  have quiet : ∀ {x : AVal} {v : Value}, Den ι x v → K x [] → (∀ w' : World, (execOp σ o).run P w' = .ok (.value v) w') → _ := fun {x v} hx hK hr =>
    (⟨x, v, [], fun _ => True, hx, hK, trivial, fun w' _ => hr w', .inl fun _ => trivial⟩ : ∃ x v ids, ∃ S : World → Prop, Den ι x v ∧ K x ids ∧ S w ∧ (∀ w', S w' → (execOp σ o).run P w' = .ok (.value v) w') ∧
      ((∀ w', S w') ∨ ∃ id r ob b, ids = [id] ∧ ι id = some r ∧ H.get id = some b ∧ w.heap[r]? = some ob ∧ ∀ w' : World, w'.heap[r]? = some ob → S w'))
  have vof : ∀ {s : Sem Value} {v : Value} {w' : World}, s.run P w' = .ok v w' → (do pure (.value (← s)) : Sem Next).run P w' = .ok (.value v) w' := fun hs => by
    simp only [Sem.run_bind, hs, Result.andThen_ok, Sem.run_pure]
  obtain ⟨dst, op, type, pos, after, guard⟩ := o
  cases op <;> simp only [stillA] at h
  case move x => exact quiet (hd x) h (fun _ => rfl)
  case assign x => exact quiet (hd x) h (fun _ => rfl)
  case nilCheck x =>
    obtain ⟨y, hrun, hy, hK⟩ := nil_st h (hd x)
    exact quiet hy hK hrun
  case fieldAddr s x f =>
    obtain ⟨y, v, hrun, hy, hK⟩ := fieldAddrA_st h (hd x)
    exact quiet hy hK (fun w' => vof (hrun w'))
  case indexAddr t x i =>
    obtain ⟨y, v, hrun, hy, hK⟩ := indexAddrA_st h (hd x) (hd i)
    exact quiet hy hK (fun w' => vof (hrun w'))
  case makeFunc f a b =>
    have e1 : a.map σ = (a.toList.map σ).toArray := by rw [← Array.toList_inj]; simp
    have e2 : b.map σ = (b.toList.map σ).toArray := by rw [← Array.toList_inj]; simp
    refine quiet (v := .func f (a.map σ) (b.map σ)) ?_ h (fun w' => rfl)
    rw [e1, e2]
    exact .fn (map_den hd _) (map_den hd _)
  case load t a =>
    split at h
    · rename_i id off ha
      have hda := hd a
      rw [ha] at hda
      obtain ⟨x, y, r, ob, b, hr, hg, ho, hrun, hx, hK⟩ := loadA_at h hi hda
      exact ⟨x, y, [id], fun w' => w'.heap[r]? = some ob, hx, hK, ho, fun w' hw' => vof (hrun w' hw'), .inr ⟨id, r, ob, b, rfl, hr, hg, ho, fun _ h => h⟩⟩
    · exact h.elim
  case lookup t m k ok =>
    split at h
    · rename_i id hm
      have hdm := hd m
      rw [hm] at hdm
      obtain ⟨x, y, r, ob, b, hr, hg, ho, hrun, hx, hK⟩ := lookup_at (K := fun v _ => K v [id]) h hi hdm (hd k)
      exact ⟨x, y, [id], fun w' => w'.heap[r]? = some ob, hx, hK, ho, fun w' hw' => vof (hrun w' hw'), .inr ⟨id, r, ob, b, rfl, hr, hg, ho, fun _ h => h⟩⟩
    · exact h.elim
  all_goals exact h.elim

theorem drawA_ok {cx : CallX} (hcx : CxOk P cx) {ops : Array Oper} {Q : Exit → Act → World → Prop} {K : Fr → AHeap → Prop} (hs : Region.noSelect ops = true) (hQp : ∀ c a w, ¬ Q (.panic c) a w) :
    ∀ (n : Nat) {ι : Inj} {listed : Array Bool} {T : List (Nat × Nat)} {L : Held} {fr : Fr} {H : AHeap} {a : Act} {w : World}, drawA P cx ops n listed T fr H K → Inv w0 F0 ι H w → FRel ι fr a → DRel ι H.defs a.defers → TOk ι H w T L →
      (∀ a' w', PostF w0 F0 ι K a' w' → Q .normal a' w') → wpW P ops Q n listed L a w := by
  have oparr : ops = ops.toList.toArray := by simp
  intro n
  induction n with
  | zero =>
    intro ι listed T L fr H a w h hi hf hd hT hQ
    simp only [drawA] at h
    split at h
    · rename_i hr
      exact ⟨hr, hQ a w ⟨fr, H, ι, h, Inj.le_refl _, hf, hd, hi⟩⟩
    · exact h.elim
  | succ n ih =>
    intro ι listed T L fr H a w h hi hf hd hT hQ
    simp only [drawA] at h
    split at h
    · rename_i hr
      exact ⟨fun _ => hQ a w ⟨fr, H, ι, h, Inj.le_refl _, hf, hd, hi⟩, by rw [hr]; simp⟩
    · rename_i r rs hr
      split at h
      · rename_i i o hp
        obtain ⟨hmem, ho, hfree⟩ := pickA_out hp
        rw [← hr] at hmem
        have hout := wantA_out h hf
        rw [← oparr] at hout
        rcases hout with ⟨fr', hf', hw, h⟩ | ⟨fr', hf', hw, h⟩
        · obtain ⟨x, v, ids, S, hx, hK, hS, hrun, hids⟩ := still_ok h hi (fun x => hf'.eval x)
          refine wpW_first (S := S) (v := v) ho (Region.noSelect_spec hs) (fun c a w hq => (hQp c _ w hq).elim) n listed L a w (Region.free_spec ho hfree) hmem (.inl ⟨hw, hrun⟩) hS hT.now ?_
          refine ih hK hi (hf'.put hx _) (by rw [put_defers]; exact hd) ?_ hQ
          intro y hy
          rcases List.mem_cons.1 hy with rfl | hy
          · rcases hids with hids | ⟨id, r, ob, b, rfl, hr, hg, ho, hall⟩
            · exact .inl hids
            · exact .inr ⟨id, r, ob, b, by simp, hr, hg, ho, hall⟩
          · rcases hT y hy with h1 | ⟨id, r, ob, b, hm, h1⟩
            · exact .inl h1
            · exact .inr ⟨id, r, ob, b, List.mem_append_right _ hm, h1⟩
        · refine wpW_first (S := fun _ => True) (v := undef) ho (Region.noSelect_spec hs) (fun c a w hq => (hQp c _ w hq).elim) n listed L a w (Region.free_spec ho hfree) hmem (.inr ⟨hw, rfl⟩) trivial hT.now ?_
          refine ih h hi (hf'.put (.tup .nil) _) (by rw [put_defers]; exact hd) ?_ hQ
          intro y hy
          rcases List.mem_cons.1 hy with rfl | hy
          · exact .inl fun _ => trivial
          · exact hT y hy
      · refine ⟨fun h0 => (by rw [hr] at h0; cases h0), fun j hj => ?_⟩
        rw [hr] at hj
        have hj := allA_out h j hj
        split at hj
        · rename_i o ho
          have hout := wantA_out hj hf
          rw [← oparr] at hout
          unfold wpOp
          simp only [ho]
          rcases hout with ⟨fr', hf', hw, h⟩ | ⟨fr', hf', hw, h⟩
          · rw [if_pos hw]
            refine .inl ?_
            unfold Oper.wp
            have hnx := op_ok hcx h ((hi.cut (heldFor ops j T)).withD []) (fun x => hf'.eval x)
            refine upon_of_next hnx fun v x H' ι' w' hK hx hle hinv => ?_
            obtain ⟨hros, hK⟩ := gd_out hK
            have hros := eqN_eq hros
            have hlay := hi.lay (heldFor ops j T) hle hinv hros
            -- what was read early stands
            have hkeep : TOk ι' (joinH H (heldFor ops j T) H') w' (pastT ops j T) (L.past ops j) := by
              intro y hy
              simp only [Held.past, List.mem_filter] at hy
              rcases hT y hy.1 with h1 | ⟨id, r, ob, b, hm, h1, hg, hob, hall⟩
              · exact .inl h1
              · have hmT : (y.1, id) ∈ pastT ops j T := by
                  simp only [pastT, List.mem_filter]
                  exact ⟨hm, hy.2⟩
                have hid : id ∈ heldFor ops j T := mem_dedupN (List.mem_map.2 ⟨_, hmT, rfl⟩)
                refine .inr ⟨id, r, ob, b, hmT, hle _ _ h1, by rw [joinH_get, if_pos hid]; exact hg, ?_, hall⟩
                have hlt : r < w.heap.size := by
                  rcases Nat.lt_or_ge r w.heap.size with h' | h'
                  · exact h'
                  · rw [Array.getElem?_eq_none h'] at hob; cases hob
                rw [hinv.frame r hlt ?_]
                · exact hob
                · rintro ⟨k, c, hk, hkr, _⟩
                  rw [delAll_get] at hk
                  split at hk
                  · cases hk
                  · rename_i hn
                    have := hi.inj id k b c r hg hk h1 hkr
                    subst this
                    exact hn hid
            exact ⟨hkeep.now, ih hK hlay ((hf'.mono hle).put hx _) (by rw [put_defers]; exact hd.mono hle) hkeep (fun a' w' hp => hQ a' w' (hp.le hle))⟩
          · rw [if_neg (by rw [hw]; simp)]
            have hkeep : TOk ι H w (pastT ops j T) (L.past ops j) := by
              intro y hy
              simp only [Held.past, List.mem_filter] at hy
              rcases hT y hy.1 with h1 | ⟨id, r, ob, b, hm, h1⟩
              · exact .inl h1
              · exact .inr ⟨id, r, ob, b, by simp only [pastT, List.mem_filter]; exact ⟨hm, hy.2⟩, h1⟩
            exact ⟨hkeep.now, ih h hi (hf'.put (.tup .nil) _) (by rw [put_defers]; exact hd) hkeep hQ⟩
        · exact hj.elim

/-- A region whose order is drawn. -/
def regD (P : Program) (cx : CallX) (ops : Array Oper) (fr : Fr) (H : AHeap) (K : Fr → AHeap → Prop) : Prop :=
  gd (P.follows .mixedOrders && Region.noSelect ops) (drawA P cx ops ops.size (Array.replicate ops.size false) [] fr H K)
theorem regD_ok {cx : CallX} (hcx : CxOk P cx) {ops : Array Oper} {id : Nat} {Q : Exit → Act → World → Prop} {K : Fr → AHeap → Prop} {fr : Fr} {a : Act} (hQp : ∀ c a w, ¬ Q (.panic c) a w)
    (h : regD P cx ops fr H K) (hi : Inv w0 F0 ι H w) (hf : FRel ι fr a) (hd : DRel ι H.defs a.defers) (hQ : ∀ a' w', PostF w0 F0 ι K a' w' → Q .normal a' w') : (Code.region id ops true).wp P Q a w := by
  obtain ⟨hc, h⟩ := gd_out h
  simp only [Bool.and_eq_true] at hc
  refine wp_region_W hc.1 ?_
  exact drawA_ok hcx hc.2 hQp ops.size h (hi.drew _) hf hd (fun x hx => by cases hx) hQ
end
end Go.Sx
