import PyProof.Rows.All
import Wide.All
import OpenK.AllK
import Wide.FinOn
import PySem.Challenge.RW_fe0018_01
set_option Elab.async false

section
open PySem PySem.W PyProof.Rows
namespace Mine
set_option maxRecDepth 100000 in
set_option maxHeartbeats 8000000 in
open_top hd for PySem.Challenge.rw_fe0018_01
end Mine
end

section
open PySem PySem.W PyProof.Rows PySem.Calls
namespace Mine
/-- an entry of the manager's list: where the tuple lies, its time, its number, its task -/
structure Ent where
  q : Addr
  w : Int
  tw : Tok
  c : Int
  tc : Tok
  t : Addr
abbrev Ent.obj (e : Ent) : Obj := { cls := .type "tuple", data := .seq #[.int e.w e.tw, .int e.c e.tc, .ref e.t] }
def Ent.lt (a b : Ent) : Bool := decide (a.w < b.w ∨ (a.w = b.w ∧ a.c < b.c))

section
variable {prog : Program} {w : World} {A : Around} {E : Value → Shared → Prop} {s : Shared}

theorem typeIs_ent {h : Heap} {g d tk os} {e : Ent} (he : h.get? e.q = some e.obj) : Shared.TypeIs ⟨h, g, d, tk, os⟩ (.ref e.q) "tuple" := ⟨_, he, rfl⟩

theorem forIn_three {α β : Type} {l : List α} {x y z : α} {b : β} {f : α → β → Sem (ForInStep β)} {R : β → Shared → Prop} (hl : l = [x, y, z])
    (h : wpAny (model prog w) A (f x b) (fun r s₁ => match r with
      | .done b₁ => R b₁ s₁
      | .yield b₁ => wpAny (model prog w) A (f y b₁) (fun r s₂ => match r with
        | .done b₂ => R b₂ s₂
        | .yield b₂ => wpAny (model prog w) A (f z b₂) (fun r s₃ => match r with
          | .done b₃ => R b₃ s₃
          | .yield b₃ => R b₃ s₃) E s₂) E s₁) E s) : wpAny (model prog w) A (forIn l b f) R E s := by
  subst hl
  simp only [List.forIn_cons, List.forIn_nil]
  refine wpAny_bind (wpAny_mono h (fun r s₁ h₁ => ?_) fun _ _ e => e)
  cases r with
  | done b₁ => exact wpAny_pure h₁
  | yield b₁ =>
    refine wpAny_bind (wpAny_mono h₁ (fun r s₂ h₂ => ?_) fun _ _ e => e)
    cases r with
    | done b₂ => exact wpAny_pure h₂
    | yield b₂ =>
      refine wpAny_bind (wpAny_mono h₂ (fun r s₃ h₃ => ?_) fun _ _ e => e)
      cases r with
      | done b₃ => exact wpAny_pure h₃
      | yield b₃ => exact wpAny_pure h₃
theorem lt_int_rc {a b : Int} {t u : Tok} {Q : Value → Shared → Prop} (h : Q (.bool (decide (a < b))) s) : wpAny (model prog w) A (richCompare .Lt (.int a t) (.int b u)) Q E s := lt_int h

theorem meets_lt_ent (a b : Ent) (hne : a.c ≠ b.c) :
    Meets (Builtin.«tuple.__lt__» ⟨[.ref a.q, .ref b.q], []⟩) (fun _ R s => s.heap.get? a.q = some a.obj ∧ s.heap.get? b.q = some b.obj ∧ R (.ok (.ret (.bool (a.lt b)))) s) :=
  .of_wp fun prog w A R s h => by
    obtain ⟨hp, g, d, tk, os⟩ := s; obtain ⟨ha, hb, h⟩ := h
    have hta : Shared.TypeIs ⟨hp, g, d, tk, os⟩ (.ref a.q) "tuple" := ⟨_, ha, rfl⟩
    have htb : Shared.TypeIs ⟨hp, g, d, tk, os⟩ (.ref b.q) "tuple" := ⟨_, hb, rfl⟩
    have hsub := isSubtype_tuple_tuple
    wp_walk using forIn_three
    case hl => exact rfl
    dsimp only
    refine wpAny_bind (wpAny_eqBool_int ?_)
    by_cases hw : a.w = b.w
    · simp only [hw, beq_self_eq_true, Bool.not_true, Bool.false_eq_true, if_false]
      refine wpAny_pure ?_
      dsimp only
      refine wpAny_bind (wpAny_eqBool_int ?_)
      have h2 : (a.c == b.c) = false := by simpa using hne
      simp only [h2, Bool.not_false, if_true]
      refine wpAny_bind (wpAny_rule (wpAny_bind (lt_int_rc ?_)))
      refine wpAny_bind (wpAny_pure (wpAny_pure ?_))
      dsimp only
      refine wpAny_pure ⟨_, rfl, ?_⟩
      have : a.lt b = decide (a.c < b.c) := by unfold Ent.lt; simp [hw]
      rw [← this]; exact h
    · have h2 : (a.w == b.w) = false := by simpa using hw
      simp only [h2, Bool.not_false, if_true]
      refine wpAny_bind (wpAny_rule (wpAny_bind (lt_int_rc ?_)))
      refine wpAny_bind (wpAny_pure (wpAny_pure ?_))
      dsimp only
      refine wpAny_pure ⟨_, rfl, ?_⟩
      have : a.lt b = decide (a.w < b.w) := by unfold Ent.lt; simp [hw]
      rw [← this]; exact h

theorem lt_ent {a b : Ent} {Q : Value → Shared → Prop} (hne : a.c ≠ b.c) (ha : s.heap.get? a.q = some a.obj) (hb : s.heap.get? b.q = some b.obj) (hu : A.units < cLine)
    (h : Q (.bool (a.lt b)) s) : wpAny (model prog w) A (richCompare .Lt (.ref a.q) (.ref b.q)) Q E s :=
  richCompare_meets_room (typeIs_ent ha) (typeIs_ent hb) F.slot_tuple_lt F.entry_tuple_lt (F.args_tuple_lt_2 _ _) (meets_lt_ent a b hne) ⟨ha, hb, (fun e => nomatch e), h⟩ hu
end
end Mine
end

section
open PySem PySem.W PyProof.Rows PySem.Calls
set_option maxRecDepth 100000
set_option maxHeartbeats 4000000
namespace Mine
theorem entry_sift : entryFor table "_heapq.heapify.sift" = some Builtin.«_heapq.heapify.sift» := entryFor_of_fast (by kernel_rfl)
theorem entry_heappush : entryFor table "_heapq.heappush" = some Builtin.«_heapq.heappush» := entryFor_of_fast (by kernel_rfl)
theorem entry_heappop : entryFor table "_heapq.heappop" = some Builtin.«_heapq.heappop» := entryFor_of_fast (by kernel_rfl)
theorem entry_heapify : entryFor table "_heapq.heapify" = some Builtin.«_heapq.heapify» := entryFor_of_fast (by kernel_rfl)
theorem sub_list_list : isSubtype (.type "list") (.type "list") = pure true := by rw [isSubtype_type]; kernel_rfl
section
variable {prog : Program} {w : World} {A : Around} {E : Value → Shared → Prop} {s : Shared} {R : Result → Shared → Prop}

theorem sift_code {args : Args} (h : wpAny (model prog w) A.in1 (Builtin.«_heapq.heapify.sift» args) (fun fin s' => match fin with | .done f => R (.ok f) s' | .again c' => c'.quiet = true ∧ codeAny (model prog w) A c' R s') (fun e s' => R (.error e) s') s) :
    codeAny (model prog w) A (.builtin "_heapq.heapify.sift" args) R s :=
  codeAny_builtin entry_sift (by rw [Around.under_plainId (by decide +kernel)]; exact h)

abbrev siftArgs (H : Addr) (down : Bool) (pos : Nat) (v : Value) : Args := ⟨[.ref H, .bool false, .bool down, rawInt pos, rawInt (0 : Nat), v, rawInt (-1)], []⟩

theorem upd_seq {H : Addr} {its its' : Array Value} {n n' : Nat} {f : Array Value → Array Value} {Q : Unit → Shared → Prop} (hH : s.heap.get? H = some (listOf its n)) (hz : its.size ≤ 4) (hf : f its = its') (hz' : its'.size ≤ 5)
    (hn : (if its'.size == its.size then n else n + 1) = n')
    (h : ∀ h', Heap.SameBut H s.heap h' → h'.get? H = some (listOf its' n') → Q () { s with heap := h' }) : wpAny (model prog w) A (updateSeq H f) Q E s := by
  have hl : sizeLine = 16777216 := by decide +kernel
  refine wpAny_updateSeq hH rfl (h _ (Heap.SameBut.update ..) ?_) (by rw [hl]; omega) (by rw [hf, hl]; omega)
  rw [Heap.get?_update_self _ hH rfl, ← hn, ← hf]
  rfl

theorem lt_ent' {a b : Ent} {k : Bool} (hne : a.c ≠ b.c) (ha : s.heap.get? a.q = some a.obj) (hb : s.heap.get? b.q = some b.obj) (hu : A.units < cLine) (hk : a.lt b = k)
    {x y : Value} {Q : Value → Shared → Prop} (h : Q (.bool k) s) (hx : x = .ref a.q) (hy : y = .ref b.q) : wpAny (model prog w) A (richCompare .Lt x y) Q E s := by
  subst hx hy hk
  exact lt_ent hne ha hb hu h
theorem in1_lt {A : Around} (hu : A.units < 9000) : A.in1.units < cLine := by show A.units + 1 < 9900; omega

theorem sift_end {H : Addr} {its : Array Value} {n : Nat} {v : Value} (hH : s.heap.get? H = some (listOf its n)) (h : R (.ok (.ret v)) s) :
    codeAny (model prog w) A (.builtin "_heapq.heapify.sift" (siftArgs H false 0 v)) R s := by
  obtain ⟨hp, g, d, tk, os⟩ := s
  refine sift_code ?_
  wp_walk using wpAny_loadPart' hH
  exact h
theorem wpAny_truthOfDropped_bool {k : Bool} {Q : Bool → Shared → Prop} (h : Q k s) : wpAny (model prog w) A (truthOfDropped (.bool k)) Q E s := wpAny_truthy_bool h
theorem sift_quiet (args : Args) : (Code.builtin "_heapq.heapify.sift" args).quiet = true := plainId_quiet (by decide +kernel) args
theorem again_is {c : Code} (hq : c.quiet = true) (h : codeAny (model prog w) A c R s) : (match PySem.Fin.again c with | .done f => R (.ok f) s | .again c' => c'.quiet = true ∧ codeAny (model prog w) A c' R s) := ⟨hq, h⟩

theorem sift_up1 {H : Addr} {a b : Ent} {n : Nat} {v : Value} (hne : b.c ≠ a.c) (hH : s.heap.get? H = some (listOf #[.ref a.q, .ref b.q] n)) (ha : s.heap.get? a.q = some a.obj) (hb : s.heap.get? b.q = some b.obj) (hu : A.units < 9000)
    (h : ∀ h', Heap.SameBut H s.heap h' → h'.get? H = some (listOf (if b.lt a then #[.ref b.q, .ref a.q] else #[.ref a.q, .ref b.q]) n) → R (.ok (.ret v)) { s with heap := h' }) :
    codeAny (model prog w) A (.builtin "_heapq.heapify.sift" (siftArgs H false 1 v)) R s := by
  obtain ⟨hp, g, d, tk, os⟩ := s
  refine sift_code ?_
  have hu' := in1_lt hu
  wp_delta
  refine wpAny_bind ?_
  wp_delta
  refine wpAny_bind (wpAny_seqItems hH rfl (wpAny_pure ?_))
  dsimp only
  rw [if_neg Bool.false_ne_true, if_pos (by decide)]
  refine wpAny_bind (wpAny_of_eq (a := Value.ref b.q) rfl ?_)
  refine wpAny_bind (wpAny_of_eq (a := Value.ref a.q) rfl ?_)
  rw [if_neg Bool.false_ne_true]
  refine wpAny_bind ?_
  wp_delta
  refine wpAny_bind (wpAny_holding (wpAny_bind (lt_ent hne hb ha hu' (wpAny_truthOfDropped_bool ?_))))
  refine wpAny_bind ?_
  wp_delta
  refine wpAny_bind (wpAny_seqItems hH rfl (wpAny_pure ?_))
  rw [if_neg (by simp)]
  refine wpAny_pure ?_
  cases hk : b.lt a with
  | true =>
    rw [hk] at h
    rw [if_pos rfl]
    refine wpAny_bind ?_
    wp_delta
    refine wpAny_bind ?_
    wp_delta
    refine wpAny_bind (wpAny_seqItems hH rfl (wpAny_pure ?_))
    refine wpAny_bind (wpAny_of_eq (a := Value.ref a.q) rfl ?_)
    refine wpAny_bind (wpAny_of_eq (a := Value.ref b.q) rfl ?_)
    exact upd_seq hH (Nat.le_of_ble_eq_true rfl) rfl (Nat.le_of_ble_eq_true rfl) rfl (fun h' hs hh' => wpAny_pure ⟨sift_quiet _, sift_end hh' (h h' hs hh')⟩)
  | false =>
    rw [hk] at h
    rw [if_neg Bool.false_ne_true, if_pos (by decide)]
    exact wpAny_pure (h _ (Heap.SameBut.refl _ _) hH)
theorem sift_up2 {H : Addr} {a b c : Ent} {n : Nat} {v : Value} (hne : c.c ≠ a.c) (hH : s.heap.get? H = some (listOf #[.ref a.q, .ref b.q, .ref c.q] n)) (ha : s.heap.get? a.q = some a.obj) (hb : s.heap.get? c.q = some c.obj) (hu : A.units < 9000)
    (h : ∀ h', Heap.SameBut H s.heap h' → h'.get? H = some (listOf (if c.lt a then #[.ref c.q, .ref b.q, .ref a.q] else #[.ref a.q, .ref b.q, .ref c.q]) n) → R (.ok (.ret v)) { s with heap := h' }) :
    codeAny (model prog w) A (.builtin "_heapq.heapify.sift" (siftArgs H false 2 v)) R s := by
  obtain ⟨hp, g, d, tk, os⟩ := s
  refine sift_code ?_
  have hu' := in1_lt hu
  wp_delta
  refine wpAny_bind ?_
  wp_delta
  refine wpAny_bind (wpAny_seqItems hH rfl (wpAny_pure ?_))
  dsimp only
  rw [if_neg Bool.false_ne_true, if_pos (by decide)]
  refine wpAny_bind (wpAny_of_eq (a := Value.ref c.q) rfl ?_)
  refine wpAny_bind (wpAny_of_eq (a := Value.ref a.q) rfl ?_)
  rw [if_neg Bool.false_ne_true]
  refine wpAny_bind ?_
  wp_delta
  refine wpAny_bind (wpAny_holding (wpAny_bind (lt_ent hne hb ha hu' (wpAny_truthOfDropped_bool ?_))))
  refine wpAny_bind ?_
  wp_delta
  refine wpAny_bind (wpAny_seqItems hH rfl (wpAny_pure ?_))
  rw [if_neg (by simp)]
  refine wpAny_pure ?_
  cases hk : c.lt a with
  | true =>
    rw [hk] at h
    rw [if_pos rfl]
    refine wpAny_bind ?_
    wp_delta
    refine wpAny_bind ?_
    wp_delta
    refine wpAny_bind (wpAny_seqItems hH rfl (wpAny_pure ?_))
    refine wpAny_bind (wpAny_of_eq (a := Value.ref a.q) rfl ?_)
    refine wpAny_bind (wpAny_of_eq (a := Value.ref c.q) rfl ?_)
    exact upd_seq hH (Nat.le_of_ble_eq_true rfl) rfl (Nat.le_of_ble_eq_true rfl) rfl (fun h' hs hh' => wpAny_pure ⟨sift_quiet _, sift_end hh' (h h' hs hh')⟩)
  | false =>
    rw [hk] at h
    rw [if_neg Bool.false_ne_true, if_pos (by decide)]
    exact wpAny_pure (h _ (Heap.SameBut.refl _ _) hH)
theorem tup_list : Value.type "tuple" ≠ Value.type "list" := by decide
theorem get_but {h h' : Heap} {H b : Addr} {o o' : Obj} (hs : Heap.SameBut H h h') (hb : h.get? b = some o) (hH : h.get? H = some o') (hc : o.cls ≠ o'.cls) : h'.get? b = some o :=
  (hs.2 b (by rintro rfl; rw [hb] at hH; cases hH; exact hc rfl)).trans hb

theorem sift_down1 {H : Addr} {a : Ent} {n : Nat} {v : Value} (hH : s.heap.get? H = some (listOf #[.ref a.q] n)) (h : R (.ok (.ret v)) s) :
    codeAny (model prog w) A (.builtin "_heapq.heapify.sift" (siftArgs H true 0 v)) R s := by
  obtain ⟨hp, g, d, tk, os⟩ := s
  refine sift_code ?_
  wp_delta
  refine wpAny_bind ?_
  wp_delta
  refine wpAny_bind (wpAny_seqItems hH rfl (wpAny_pure ?_))
  dsimp only
  rw [if_pos rfl, if_neg (by simp)]
  exact wpAny_pure ⟨sift_quiet _, sift_end hH h⟩
theorem sift_down2' {H : Addr} {a b : Ent} {n : Nat} {v : Value} (hne : b.c ≠ a.c) (hH : s.heap.get? H = some (listOf #[.ref a.q, .ref b.q] n)) (ha : s.heap.get? a.q = some a.obj) (hb : s.heap.get? b.q = some b.obj) (hu : A.units < 9000)
    (h : ∀ h', Heap.SameBut H s.heap h' → h'.get? H = some (listOf (if b.lt a then #[.ref b.q, .ref a.q] else #[.ref a.q, .ref b.q]) n) → R (.ok (.ret v)) { s with heap := h' }) :
    codeAny (model prog w) A (.builtin "_heapq.heapify.sift" (siftArgs H true 1 v)) R s := by
  obtain ⟨hp, g, d, tk, os⟩ := s
  refine sift_code ?_
  wp_delta
  refine wpAny_bind ?_
  wp_delta
  refine wpAny_bind (wpAny_seqItems hH rfl (wpAny_pure ?_))
  dsimp only
  rw [if_pos rfl, if_neg (by simp)]
  exact wpAny_pure ⟨sift_quiet _, sift_up1 hne hH ha hb hu h⟩
theorem sift_down2 {H : Addr} {a b : Ent} {n : Nat} {v : Value} (hne : a.c ≠ b.c) (hH : s.heap.get? H = some (listOf #[.ref a.q, .ref b.q] n)) (ha : s.heap.get? a.q = some a.obj) (hb : s.heap.get? b.q = some b.obj) (hu : A.units < 9000)
    (h : ∀ h', Heap.SameBut H s.heap h' → h'.get? H = some (listOf (if a.lt b then #[.ref a.q, .ref b.q] else #[.ref b.q, .ref a.q]) n) → R (.ok (.ret v)) { s with heap := h' }) :
    codeAny (model prog w) A (.builtin "_heapq.heapify.sift" (siftArgs H true 0 v)) R s := by
  obtain ⟨hp, g, d, tk, os⟩ := s
  refine sift_code ?_
  wp_delta
  refine wpAny_bind ?_
  wp_delta
  refine wpAny_bind (wpAny_seqItems hH rfl (wpAny_pure ?_))
  dsimp only
  rw [if_pos rfl, if_pos (by simp), if_neg (by simp)]
  refine wpAny_bind ?_
  wp_delta
  refine wpAny_bind ?_
  wp_delta
  refine wpAny_bind (wpAny_seqItems hH rfl (wpAny_pure ?_))
  refine wpAny_bind (wpAny_of_eq (a := Value.ref b.q) rfl ?_)
  refine wpAny_bind (wpAny_of_eq (a := Value.ref a.q) rfl ?_)
  refine upd_seq (its' := #[.ref b.q, .ref a.q]) (n' := n) hH (Nat.le_of_ble_eq_true rfl) rfl (Nat.le_of_ble_eq_true rfl) rfl (fun h' hs hh' => wpAny_pure ⟨sift_quiet _, ?_⟩)
  exact sift_down2' hne hh' (get_but hs hb hH tup_list) (get_but hs ha hH tup_list) hu fun h'' hs' hh'' => h h'' (hs.trans hs') hh''
end
end Mine
end

section
open PySem PySem.W PyProof.Rows PySem.Calls
set_option maxRecDepth 100000
set_option maxHeartbeats 4000000
namespace Mine
section
variable {prog : Program} {w : World} {A : Around} {E : Value → Shared → Prop} {s : Shared} {R : Result → Shared → Prop}
theorem call_heapq {id : String} {b : Builtin} {args : List Value} {Q : Value → Shared → Prop} (kind : builtinKind id = none) (plain : plainId id = true)
    (entry : entryFor table id = some b) (ok : argsOk id ⟨args, []⟩)
    (h : wpAny (model prog w) A.in1 (b ⟨args, []⟩) (fun fin s' => match fin with | .done f => wants Q E (.ok f) s' | .again c' => c'.quiet = true ∧ codeAny (model prog w) A c' (wants Q E) s') (fun e s' => E e s') s) :
    wpAny (model prog w) A (call (.builtin id) args) Q E s := by
  refine wpAny_call (codeAny_call_builtin plain entry ?_)
  simp only [checkBuiltinCall, kind]
  cases hsig : Manifest.signature? id with
  | none => exact wpAny_pure h
  | some sig =>
    simp only [argsOk, hsig] at ok
    have h2 : Bind.checkArgs id sig ⟨args, []⟩ = pure () := ok
    show wpAny _ _ (Bind.checkArgs id sig ⟨args, []⟩) _ _ s
    rw [h2]; exact wpAny_pure h
theorem args_heappush (a b : Value) : argsOk "_heapq.heappush" ⟨[a, b], []⟩ := by unfold argsOk; kernel_rfl
theorem args_heappop (a : Value) : argsOk "_heapq.heappop" ⟨[a], []⟩ := by unfold argsOk; kernel_rfl
theorem args_heapify (a : Value) : argsOk "_heapq.heapify" ⟨[a], []⟩ := by unfold argsOk; kernel_rfl
theorem isList_of {H : Addr} {its : Array Value} {n : Nat} (hH : s.heap.get? H = some (listOf its n)) : s.TypeIs (.ref H) "list" := ⟨_, hH, rfl⟩

theorem heappush_go {H : Addr} {q : Ent} {its : Array Value} {n k : Nat} {Q : Value → Shared → Prop} (hH : s.heap.get? H = some (listOf its n)) (hz : its.size = k) (hk : k ≤ 2)
    (h : ∀ h', Heap.SameBut H s.heap h' → h'.get? H = some (listOf (its.push (.ref q.q)) (n + 1)) → codeAny (model prog w) A (.builtin "_heapq.heapify.sift" (siftArgs H false k .none)) (wants Q E) { s with heap := h' }) :
    wpAny (model prog w) A (call (.builtin "_heapq.heappush") [.ref H, .ref q.q]) Q E s := by
  obtain ⟨hp, g, d, tk, os⟩ := s
  have hsub := sub_list_list
  have hT : Shared.TypeIs ⟨hp, g, d, tk, os⟩ (.ref H) "list" := ⟨_, hH, rfl⟩
  refine call_heapq (by decide +kernel) (by decide +kernel) entry_heappush (args_heappush _ _) ?_
  wp_delta
  refine wpAny_bind ?_
  wp_delta
  refine wpAny_bind (wpAny_pure ?_)
  refine wpAny_bind (wpAny_pure ?_)
  dsimp only
  refine wpAny_bind ?_
  wp_delta
  refine wpAny_bind (wpAny_isInstance hT hsub ?_)
  rw [if_pos rfl]
  refine wpAny_pure (wpAny_pure ?_)
  dsimp only
  refine wpAny_bind (upd_seq (its' := its.push (.ref q.q)) (n' := n + 1) hH (by omega) rfl (by rw [Array.size_push]; omega) (by rw [Array.size_push, if_neg (by simp)]) fun h' hs hh' => ?_)
  refine wpAny_bind ?_
  wp_delta
  refine wpAny_bind (wpAny_seqItems hh' rfl (wpAny_pure (wpAny_pure ⟨sift_quiet _, ?_⟩)))
  rw [Array.size_push, hz]
  exact h h' hs hh'

theorem heappush0 {H : Addr} {q : Ent} {n : Nat} {Q : Value → Shared → Prop} (hH : s.heap.get? H = some (listOf #[] n))
    (h : ∀ h', Heap.SameBut H s.heap h' → h'.get? H = some (listOf #[.ref q.q] (n + 1)) → Q .none { s with heap := h' }) :
    wpAny (model prog w) A (call (.builtin "_heapq.heappush") [.ref H, .ref q.q]) Q E s :=
  heappush_go hH rfl (Nat.le_of_ble_eq_true rfl) fun h' hs hh' => sift_end hh' (h h' hs hh')
theorem heappush1 {H : Addr} {a q : Ent} {n : Nat} {Q : Value → Shared → Prop} (hne : q.c ≠ a.c) (hH : s.heap.get? H = some (listOf #[.ref a.q] n)) (ha : s.heap.get? a.q = some a.obj) (hq : s.heap.get? q.q = some q.obj) (hu : A.units < 9000)
    (h : ∀ h', Heap.SameBut H s.heap h' → h'.get? H = some (listOf (if q.lt a then #[.ref q.q, .ref a.q] else #[.ref a.q, .ref q.q]) (n + 1)) → Q .none { s with heap := h' }) :
    wpAny (model prog w) A (call (.builtin "_heapq.heappush") [.ref H, .ref q.q]) Q E s :=
  heappush_go hH rfl (Nat.le_of_ble_eq_true rfl) fun h' hs hh' => sift_up1 hne hh' (get_but hs ha hH tup_list) (get_but hs hq hH tup_list) hu fun h'' hs' hh'' => h h'' (hs.trans hs') hh''
theorem heappush2 {H : Addr} {a b q : Ent} {n : Nat} {Q : Value → Shared → Prop} (hne : q.c ≠ a.c) (hH : s.heap.get? H = some (listOf #[.ref a.q, .ref b.q] n)) (ha : s.heap.get? a.q = some a.obj) (hq : s.heap.get? q.q = some q.obj) (hu : A.units < 9000)
    (h : ∀ h', Heap.SameBut H s.heap h' → h'.get? H = some (listOf (if q.lt a then #[.ref q.q, .ref b.q, .ref a.q] else #[.ref a.q, .ref b.q, .ref q.q]) (n + 1)) → Q .none { s with heap := h' }) :
    wpAny (model prog w) A (call (.builtin "_heapq.heappush") [.ref H, .ref q.q]) Q E s :=
  heappush_go hH rfl (Nat.le_of_ble_eq_true rfl) fun h' hs hh' => sift_up2 hne hh' (get_but hs ha hH tup_list) (get_but hs hq hH tup_list) hu fun h'' hs' hh'' => h h'' (hs.trans hs') hh''

theorem heapify_go {H : Addr} {its : Array Value} {n k : Nat} {Q : Value → Shared → Prop} (hH : s.heap.get? H = some (listOf its n)) (hk : its.size = k) (h2 : k ≤ 2)
    (h : k < 2 → Q .none s) (h' : k = 2 → codeAny (model prog w) A (.builtin "_heapq.heapify.sift" (siftArgs H true 0 .none)) (wants Q E) s) :
    wpAny (model prog w) A (call (.builtin "_heapq.heapify") [.ref H]) Q E s := by
  obtain ⟨hp, g, d, tk, os⟩ := s
  have hsub := sub_list_list
  have hT : Shared.TypeIs ⟨hp, g, d, tk, os⟩ (.ref H) "list" := ⟨_, hH, rfl⟩
  refine call_heapq (by decide +kernel) (by decide +kernel) entry_heapify (args_heapify _) ?_
  wp_delta
  wp_delta
  refine wpAny_bind ?_
  wp_delta
  refine wpAny_bind ?_
  wp_delta
  refine wpAny_bind (wpAny_pure ?_)
  wp_delta
  refine wpAny_pure ?_
  refine wpAny_bind ?_
  wp_delta
  refine wpAny_bind (wpAny_isInstance hT hsub ?_)
  rw [if_pos rfl]
  refine wpAny_pure (wpAny_pure ?_)
  dsimp only
  refine wpAny_bind ?_
  wp_delta
  refine wpAny_bind (wpAny_seqItems hH rfl (wpAny_pure ?_))
  rw [hk, if_neg (by omega)]
  by_cases hlt : k < 2
  · rw [if_pos hlt]
    exact wpAny_pure (h hlt)
  · have hk2 : k = 2 := by omega
    rw [if_neg hlt]
    subst hk2
    exact wpAny_pure ⟨sift_quiet _, h' rfl⟩
theorem heapify0 {H : Addr} {n : Nat} {Q : Value → Shared → Prop} (hH : s.heap.get? H = some (listOf #[] n)) (h : Q .none s) : wpAny (model prog w) A (call (.builtin "_heapq.heapify") [.ref H]) Q E s :=
  heapify_go hH rfl (Nat.le_of_ble_eq_true rfl) (fun _ => h) fun e => nomatch e
theorem heapify1 {H : Addr} {a : Ent} {n : Nat} {Q : Value → Shared → Prop} (hH : s.heap.get? H = some (listOf #[.ref a.q] n)) (h : Q .none s) : wpAny (model prog w) A (call (.builtin "_heapq.heapify") [.ref H]) Q E s :=
  heapify_go hH rfl (Nat.le_of_ble_eq_true rfl) (fun _ => h) fun e => nomatch e
theorem heapify2 {H : Addr} {a b : Ent} {n : Nat} {Q : Value → Shared → Prop} (hne : a.c ≠ b.c) (hH : s.heap.get? H = some (listOf #[.ref a.q, .ref b.q] n)) (ha : s.heap.get? a.q = some a.obj) (hb : s.heap.get? b.q = some b.obj) (hu : A.units < 9000)
    (h : ∀ h', Heap.SameBut H s.heap h' → h'.get? H = some (listOf (if a.lt b then #[.ref a.q, .ref b.q] else #[.ref b.q, .ref a.q]) n) → Q .none { s with heap := h' }) :
    wpAny (model prog w) A (call (.builtin "_heapq.heapify") [.ref H]) Q E s :=
  heapify_go hH rfl (Nat.le_of_ble_eq_true rfl) (fun e => absurd e (by simp)) fun _ => sift_down2 hne hH ha hb hu h

theorem heappop_go {H : Addr} {its : Array Value} {l : Value} {n : Nat} {Q : Value → Shared → Prop} (hH : s.heap.get? H = some (listOf its n)) (hl : its.back? = some l) (hz : its.size ≤ 4)
    (h : ∀ h', Heap.SameBut H s.heap h' → h'.get? H = some (listOf its.pop (n + 1)) → its.size = 1 → Q l { s with heap := h' })
    (h2 : ∀ h' first, Heap.SameBut H s.heap h' → h'.get? H = some (listOf (its.pop.setIfInBounds 0 l) (n + 1)) → its[0]? = some first → its.size ≠ 1 →
      codeAny (model prog w) A (.builtin "_heapq.heapify.sift" (siftArgs H true 0 first)) (wants Q E) { s with heap := h' }) :
    wpAny (model prog w) A (call (.builtin "_heapq.heappop") [.ref H]) Q E s := by
  obtain ⟨hp, g, d, tk, os⟩ := s
  have hsub := sub_list_list
  have hT : Shared.TypeIs ⟨hp, g, d, tk, os⟩ (.ref H) "list" := ⟨_, hH, rfl⟩
  have hpos : 0 < its.size := by
    cases hs : its.size with
    | zero => simp [Array.back?, hs] at hl
    | succ k => omega
  refine call_heapq (by decide +kernel) (by decide +kernel) entry_heappop (args_heappop _) ?_
  wp_delta
  wp_delta
  refine wpAny_bind ?_
  wp_delta
  refine wpAny_bind ?_
  wp_delta
  refine wpAny_bind (wpAny_pure ?_)
  wp_delta
  refine wpAny_pure ?_
  refine wpAny_bind ?_
  wp_delta
  refine wpAny_bind (wpAny_isInstance hT hsub ?_)
  rw [if_pos rfl]
  refine wpAny_pure (wpAny_pure ?_)
  dsimp only
  refine wpAny_bind ?_
  wp_delta
  refine wpAny_bind (wpAny_seqItems hH rfl (wpAny_pure ?_))
  rw [hl]
  dsimp only
  refine wpAny_bind (upd_seq (its' := its.pop) (n' := n + 1) hH (by omega) rfl (by rw [Array.size_pop]; omega) (by rw [Array.size_pop, if_neg (by simp; omega)]) fun h' hs hh' => ?_)
  by_cases h1 : its.size = 1
  · rw [h1, if_pos (by rfl)]
    exact wpAny_pure (h h' hs hh' h1)
  · rw [if_neg (by simpa using h1)]
    obtain ⟨first, hf⟩ : ∃ first, its[0]? = some first := ⟨its[0], by simp [hpos]⟩
    refine wpAny_bind ?_
    wp_delta
    rw [hf]
    refine wpAny_pure ?_
    refine wpAny_bind (upd_seq (its' := its.pop.setIfInBounds 0 l) (n' := n + 1) hh' (by rw [Array.size_pop]; omega) rfl (by rw [Array.size_setIfInBounds, Array.size_pop]; omega) (by rw [Array.size_setIfInBounds]; simp) fun h'' hs' hh'' => ?_)
    exact wpAny_pure ⟨sift_quiet _, h2 h'' first (hs.trans hs') hh'' hf h1⟩
theorem heappop1 {H : Addr} {a : Ent} {n : Nat} {Q : Value → Shared → Prop} (hH : s.heap.get? H = some (listOf #[.ref a.q] n))
    (h : ∀ h', Heap.SameBut H s.heap h' → h'.get? H = some (listOf #[] (n + 1)) → Q (.ref a.q) { s with heap := h' }) :
    wpAny (model prog w) A (call (.builtin "_heapq.heappop") [.ref H]) Q E s :=
  heappop_go hH rfl (Nat.le_of_ble_eq_true rfl) (fun h' hs hh' _ => h h' hs hh') fun _ _ _ _ _ e => absurd rfl e
theorem heappop2 {H : Addr} {a b : Ent} {n : Nat} {Q : Value → Shared → Prop} (hH : s.heap.get? H = some (listOf #[.ref a.q, .ref b.q] n))
    (h : ∀ h', Heap.SameBut H s.heap h' → h'.get? H = some (listOf #[.ref b.q] (n + 1)) → Q (.ref a.q) { s with heap := h' }) :
    wpAny (model prog w) A (call (.builtin "_heapq.heappop") [.ref H]) Q E s :=
  heappop_go hH rfl (Nat.le_of_ble_eq_true rfl) (fun _ _ _ e => nomatch e) fun h' first hs hh' hf _ => by
    cases hf
    exact sift_down1 (a := b) hh' (h h' hs hh')
theorem heappop3 {H : Addr} {a b c : Ent} {n : Nat} {Q : Value → Shared → Prop} (hne : c.c ≠ b.c) (hH : s.heap.get? H = some (listOf #[.ref a.q, .ref b.q, .ref c.q] n)) (hb : s.heap.get? b.q = some b.obj) (hc : s.heap.get? c.q = some c.obj) (hu : A.units < 9000)
    (h : ∀ h', Heap.SameBut H s.heap h' → h'.get? H = some (listOf (if c.lt b then #[.ref c.q, .ref b.q] else #[.ref b.q, .ref c.q]) (n + 1)) → Q (.ref a.q) { s with heap := h' }) :
    wpAny (model prog w) A (call (.builtin "_heapq.heappop") [.ref H]) Q E s :=
  heappop_go hH rfl (Nat.le_of_ble_eq_true rfl) (fun _ _ _ e => nomatch e) fun h' first hs hh' hf _ => by
    cases hf
    exact sift_down2 hne hh' (get_but hs hc hH tup_list) (get_but hs hb hH tup_list) hu fun h'' hs' hh'' => h h'' (hs.trans hs') hh''
end
end Mine
end

section
open PySem PySem.W PyProof.Rows PySem.Calls
set_option maxRecDepth 100000
set_option maxHeartbeats 4000000
namespace Mine
abbrev refs (es : List Ent) : Array Value := (es.map fun e => Value.ref e.q).toArray
section
variable {prog : Program} {w : World} {A : Around} {E : Value → Shared → Prop} {s : Shared} {env : Env} {h₀ : Heap}

theorem isEnum_but {h h' : Heap} {e it : Addr} {i : Int} {old : Value} (he : IsEnum h e it i old) (k : ∀ o, h.get? e = some o → h'.get? e = some o) : IsEnum h' e it i old := k _ he

/-- a for over enumerate of a list of entries, its target a name and three names -/
theorem loop_enum3 {R : Result → Shared → Prop} {xi xa xb xc : Str} {pi pa pb pc pt pt2 : Pos} {k1 k2} {body : List Stmt} {e it l : Addr} {es : List Ent} {n : Nat} {m : Str → Option Value} {hd rest : List (Addr × Obj)}
    (hh : A.handled = none) (hxi : env.kindOf xi = some .local) (hxa : env.kindOf xa = some .local) (hxb : env.kindOf xb = some .local) (hxc : env.kindOf xc = some .local)
    (hp : (env.scope.kind == .class || (env.scope.kind == .module && env.locals != env.globals)) = false)
    (hei : e ≠ it) (heL : e ≠ env.locals) (hiL : it ≠ env.locals) (he0 : h₀.get? e = none) (hi0 : h₀.get? it = none) (hen : ∀ p ∈ hd ++ rest, p.1 ≠ e) (hin : ∀ p ∈ hd ++ rest, p.1 ≠ it)
    (he : IsEnum s.heap e it 0 .none) (hit : s.heap.IsListIter it l 0) (F : Fr h₀ env.locals s.heap m) (N : News h₀ env.locals s.heap (hd ++ rest))
    (hl : (l, listOf (refs es) n) ∈ hd ++ rest) (hes : ∀ x ∈ es, (x.q, x.obj) ∈ hd ++ rest)
    (J : Nat → (Str → Option Value) → Prop) (h0 : J 0 m)
    (step : ∀ i x h tk tki m₁ own, es[i]? = some x → J i m₁ → (∀ p ∈ own, ∀ q ∈ hd ++ rest, p.1 ≠ q.1) →
      Fr h₀ env.locals h (fun y => if y = xc then some (.ref x.t) else if y = xb then some (.int x.c x.tc) else if y = xa then some (.int x.w x.tw) else if y = xi then some (.int (i : Nat) tki) else m₁ y) → News h₀ env.locals h (hd ++ (own ++ rest)) →
      wpAny (model prog w) A (execs body env) (fun f s' => match f with
        | .brk => R (.ok .next) s'
        | .ret v => R (.ok (.ret v)) s'
        | _ => ∃ h' tk' m', s' = { s with heap := h', toks := tk' } ∧ Fr h₀ env.locals h' m' ∧ News h₀ env.locals h' (hd ++ (own ++ rest)) ∧ J (i + 1) m') (fun _ _ => False) { s with heap := h, toks := tk })
    (hR : ∀ h' tk m', Fr h₀ env.locals h' m' → News h₀ env.locals h' (hd ++ rest) → J es.length m' → R (.ok .next) { s with heap := h', toks := tk }) :
    codeAny (model prog w) A (.forLoop (.Tuple [.Name xi pi, .Tuple [.Name xa pa, .Name xb pb, .Name xc pc] k2 pt2] k1 pt) (.ref e) body [] env) R s := by
  refine codeAny_forLoop_any
    (fun k s' => ∃ h' tk m' i old, s' = { s with heap := h', toks := tk } ∧ IsEnum h' e it ((i : Nat) : Int) old ∧ h'.IsListIter it l i ∧ Fr h₀ env.locals h' m' ∧ News h₀ env.locals h' (hd ++ rest) ∧ J i m' ∧ i ≤ es.length ∧ k = es.length + 1 - i) ?_ (es.length + 1)
    ⟨s.heap, s.toks, m, 0, .none, rfl, he, hit, F, N, h0, Nat.zero_le _, rfl⟩
  rintro k s' ⟨H, tk, m', i, old, rfl, he', hit', F', N', hJ, hi, rfl⟩
  have hl' : H.IsList l (refs es) := ⟨_, (N' _ hl).1, rfl, n, rfl⟩
  have up : ∀ h₁ : Heap, (∀ b o, b ≠ e → b ≠ it → H.get? b = some o → h₁.get? b = some o) → Fr h₀ env.locals h₁ m' ∧ News h₀ env.locals h₁ (hd ++ rest) := fun h₁ kk =>
    ⟨⟨F'.ns.at fun o x => kk _ o (Ne.symm heL) (Ne.symm hiL) x, fun b o x => kk b o (by rintro rfl; rw [he0] at x; cases x) (by rintro rfl; rw [hi0] at x; cases x) (F'.keep b o x), F'.above⟩,
      fun p hp' => ⟨kk _ _ (hen p hp') (hin p hp') (N' p hp').1, (N' p hp').2⟩⟩
  cases hv : es[i]? with
  | none =>
    have hsz : i = es.length := Nat.le_antisymm hi (by simpa using hv)
    refine wpAny_pyNext_enum_end hh he' hit' hl' (by simpa [refs] using hv) fun h₁ he₁ => wpAny_execs_nil ?_
    obtain ⟨F₁, N₁⟩ := up h₁ fun b o _ hbi x => he₁ b o hbi x
    exact hR h₁ tk m' F₁ N₁ (hsz ▸ hJ)
  | some x =>
    have hlt : i < es.length := (List.getElem?_eq_some_iff.mp hv).1
    have hx : x ∈ es := List.mem_of_getElem? hv
    have heH : e < H.objs.size := Heap.lt_size he'
    obtain ⟨oi, hoi, _⟩ := id hit'
    have hiH : it < H.objs.size := Heap.lt_size hoi
    refine wpAny_pyNext_enum_item he' hit' hl' (x := .ref x.q) (by simp [refs, hv]) hei fun h₁ heo hit₁ ht₁ hz₁ hk₁ => ?_
    obtain ⟨F₁, N₁⟩ := up h₁ hk₁
    refine wpAny_letOwnedTupleGo_enum heo fun h₂ he₂ hs₂ => ?_
    replace hs₂ : Heap.SameBut e h₁ h₂ := hs₂
    have F₂ : Fr h₀ env.locals h₂ m' := F₁.change hs₂ heL he0
    have N₂ : News h₀ env.locals h₂ (hd ++ rest) := fun p hp' => ⟨(hs₂.2 _ (hen p hp')).trans (N₁ p hp').1, (N₁ p hp').2⟩
    have ht₂ : IsTup h₂ H.objs.size #[.int i tk, .ref x.q] := ⟨_, (hs₂.2 _ (Nat.ne_of_gt heH)).trans ht₁, rfl, _, rfl⟩
    have hit₂ : h₂.IsListIter it l (i + 1) := hit₁.extBut hs₂.extBut (Ne.symm hei)
    let own : List (Addr × Obj) := [(e, { cls := .type "enumerate", dict := none, data := .fields #[.none, .bool false, .ref it, rawInt ((i : Int) + 1), .none, .ref x.q], slots := #[] })]
    obtain ⟨o₂, ho₂, hc₂, hd₂⟩ := id hit₂
    have N₃ : News h₀ env.locals h₂ (hd ++ (((e, { cls := .type "enumerate", dict := none, data := .fields #[.none, .bool false, .ref it, rawInt ((i : Int) + 1), .none, .ref x.q], slots := #[] }) :: (it, o₂) :: []) ++ rest)) := by
      intro p hp'
      simp only [List.mem_append, List.mem_cons, List.not_mem_nil, or_false] at hp'
      rcases hp' with hp' | (rfl | rfl) | hp'
      · exact N₂ p (List.mem_append_left _ hp')
      · exact ⟨he₂, heL, he0⟩
      · exact ⟨ho₂, hiL, hi0⟩
      · exact N₂ p (List.mem_append_right _ hp')
    refine unpackN_ F₂ N₃ ht₂ hh rfl rfl fun h₃ F₃ N₃ => ?_
    refine assignInOrder_cons (wpAny_assign_Name (wpAny_storeName_local hxi F₃.ns (fun h₄ hn₄ hs₄ => ?_) hp))
    replace F₄ := F₃.set hn₄ hs₄
    replace N₄ := N₃.set hs₄
    refine assignInOrder_cons ?_
    have htx : IsTup h₄ x.q #[.int x.w x.tw, .int x.c x.tc, .ref x.t] := ⟨_, (N₄ _ (by
      have := hes x hx
      simp only [List.mem_append] at this ⊢
      rcases this with q | q
      · exact .inl q
      · exact .inr (.inr q))).1, rfl, _, rfl⟩
    show wpAny _ _ (assign (.Tuple [.Name xa pa, .Name xb pb, .Name xc pc] k2 pt2) env (.ref x.q)) _ _ _
    refine unpackN_ F₄ N₄ htx hh rfl rfl fun h₅ F₅ N₅ => ?_
    refine assignInOrder_cons (wpAny_assign_Name (wpAny_storeName_local hxa F₅.ns (fun h₆ hn₆ hs₆ => ?_) hp))
    replace F₆ := F₅.set hn₆ hs₆
    replace N₆ := N₅.set hs₆
    refine assignInOrder_cons (wpAny_assign_Name (wpAny_storeName_local hxb F₆.ns (fun h₇ hn₇ hs₇ => ?_) hp))
    replace F₇ := F₆.set hn₇ hs₇
    replace N₇ := N₆.set hs₇
    refine assignInOrder_cons (wpAny_assign_Name (wpAny_storeName_local hxc F₇.ns (fun h₈ hn₈ hs₈ => ?_) hp))
    replace F₈ := F₇.set hn₈ hs₈
    replace N₈ := N₇.set hs₈
    refine assignInOrder_nil (assignInOrder_nil ?_)
    refine wpAny_mono (step i x h₈ _ tk m' _ hv hJ ?_ F₈ N₈) (fun f s₉ h₉ => ?_) fun _ _ y => y.elim
    · intro p hp' q hq
      simp only [List.mem_cons, List.not_mem_nil, or_false] at hp'
      rcases hp' with rfl | rfl
      · exact Ne.symm (hen q hq)
      · exact Ne.symm (hin q hq)
    · have fin : (∃ h' tk' m'', s₉ = { s with heap := h', toks := tk' } ∧ Fr h₀ env.locals h' m'' ∧ News h₀ env.locals h' (hd ++ (((e, { cls := .type "enumerate", dict := none, data := .fields #[.none, .bool false, .ref it, rawInt ((i : Int) + 1), .none, .ref x.q], slots := #[] }) :: (it, o₂) :: []) ++ rest)) ∧ J (i + 1) m'') →
          ∃ mm, mm < es.length + 1 - i ∧ ∃ h' tk m' j old, s₉ = { s with heap := h', toks := tk } ∧ IsEnum h' e it ((j : Nat) : Int) old ∧ h'.IsListIter it l j ∧ Fr h₀ env.locals h' m' ∧ News h₀ env.locals h' (hd ++ rest) ∧ J j m' ∧ j ≤ es.length ∧ mm = es.length + 1 - j := by
        rintro ⟨h', tk', m'', rfl, F₉, N₉, hJ₉⟩
        have e9 := (N₉ (e, { cls := .type "enumerate", dict := none, data := .fields #[.none, .bool false, .ref it, rawInt ((i : Int) + 1), .none, .ref x.q], slots := #[] }) (by simp)).1
        have i9 := (N₉ (it, o₂) (by simp)).1
        refine ⟨es.length + 1 - (i + 1), by omega, h', tk', m'', i + 1, .ref x.q, rfl, ?_, ⟨o₂, i9, hc₂, hd₂⟩, F₉, ?_, hJ₉, hlt, rfl⟩
        · have : ((i + 1 : Nat) : Int) = (i : Int) + 1 := by push_cast; rfl
          rw [this]; exact e9
        · intro p hp'
          refine N₉ p ?_
          simp only [List.mem_append] at hp' ⊢
          rcases hp' with q | q
          · exact .inl q
          · exact .inr (.inr q)
      cases f with
      | next => exact fin h₉
      | cont => exact fin h₉
      | brk => exact h₉
      | ret v => exact h₉
end
end Mine
end

section
open PySem PySem.W PyProof.Rows PySem.Calls
set_option maxRecDepth 100000
set_option maxHeartbeats 4000000
namespace Mine
def EnumAt (prog : Program) (w : World) (A : Around) (env : Env) (target : Expr) (body : List Stmt) (Q : Flow → Shared → Prop) (E : Value → Shared → Prop) (xv : Value) (s₁ : Shared) : Prop :=
  wpAny (model prog w) A (pyIter xv) (fun it s₂ => codeAny (model prog w) A (.forLoop target it body [] env) (fun r s' => match r with | .ok f => Q f s' | .error e => cameBackBy (model prog w) A env E e s') s₂) E s₁
theorem For_enumAt {prog : Program} {w : World} {A : Around} {E : Value → Shared → Prop} {s : Shared} {env : Env} {target iter body pos} {Q : Flow → Shared → Prop}
    (h : wpAny (model prog w) A (eval iter env) (EnumAt prog w A env target body Q E) E s) (hs : ∀ x, foldedSetIterable iter env x = pure x := by intro _; rfl) :
    wpAny (model prog w) A (exec (.For target iter body [] pos) env) Q E s := wpAny_For h hs
def TurnEnd (h₀ : Heap) (L : Addr) (s : Shared) (news : List (Addr × Obj)) (J : (Str → Option Value) → Prop) (s' : Shared) : Prop :=
  ∃ h' tk' m', s' = { s with heap := h', toks := tk' } ∧ Fr h₀ L h' m' ∧ News h₀ L h' news ∧ J m'
section
variable {prog : Program} {w : World} {A : Around} {E : Value → Shared → Prop} {s : Shared} {env : Env} {h₀ : Heap}
theorem enum_at3 {Q : Flow → Shared → Prop} {xi xa xb xc : Str} {pi pa pb pc pt pt2 : Pos} {k1 k2} {body : List Stmt} {l : Addr} {es : List Ent} {n : Nat} {m : Str → Option Value} {hd rest : List (Addr × Obj)}
    (F : Fr h₀ env.locals s.heap m) (N : News h₀ env.locals s.heap (hd ++ rest)) (hl : (l, listOf (refs es) n) ∈ hd ++ rest) (hes : ∀ x ∈ es, (x.q, x.obj) ∈ hd ++ rest)
    (hh : A.handled = none) (hxi : env.kindOf xi = some .local) (hxa : env.kindOf xa = some .local) (hxb : env.kindOf xb = some .local) (hxc : env.kindOf xc = some .local)
    (hp : (env.scope.kind == .class || (env.scope.kind == .module && env.locals != env.globals)) = false)
    (J : Nat → (Str → Option Value) → Prop) (h0 : J 0 m)
    (step : ∀ i x h tk tki m₁ own, es[i]? = some x → J i m₁ → (∀ p ∈ own, ∀ q ∈ hd ++ rest, p.1 ≠ q.1) →
      Fr h₀ env.locals h (fun y => if y = xc then some (.ref x.t) else if y = xb then some (.int x.c x.tc) else if y = xa then some (.int x.w x.tw) else if y = xi then some (.int (i : Nat) tki) else m₁ y) → News h₀ env.locals h (hd ++ (own ++ rest)) →
      wpAny (model prog w) A (execs body env) (fun f s' => match f with
        | .brk => Q .next s'
        | .ret v => Q (.ret v) s'
        | _ => TurnEnd h₀ env.locals s (hd ++ (own ++ rest)) (J (i + 1)) s') (fun _ _ => False) { s with heap := h, toks := tk })
    (hR : ∀ h' tk m', Fr h₀ env.locals h' m' → News h₀ env.locals h' (hd ++ rest) → J es.length m' → Q .next { s with heap := h', toks := tk }) :
    wpAny (model prog w) A (call (.type "enumerate") [.ref l]) (EnumAt prog w A env (.Tuple [.Name xi pi, .Tuple [.Name xa pa, .Name xb pb, .Name xc pc] k2 pt2] k1 pt) body Q E) E s := by
  have hlL : env.locals < s.heap.objs.size := F.ns.lt
  have hold : ∀ p ∈ hd ++ rest, p.1 < s.heap.objs.size := fun p hp' => Heap.lt_size (N p hp').1
  refine call_enumerate_1 (items := refs es) (n := n) (N _ hl).1 fun h' he hit hz hk => ?_
  have F' : Fr h₀ env.locals h' m := F.kept hk
  have N' : News h₀ env.locals h' (hd ++ rest) := N.grown hk
  have hnone : ∀ b, s.heap.objs.size ≤ b → h₀.get? b = none := fun b hb => by
    cases q : h₀.get? b with
    | none => rfl
    | some o => exact absurd (Heap.lt_size (F.keep _ _ q)) (by show ¬ b < s.heap.objs.size; omega)
  refine wpAny_pyIter_enum he ?_
  exact loop_enum3 hh hxi hxa hxb hxc hp (neN (by omega)) (Nat.ne_of_gt (Nat.lt_succ_of_lt hlL)) (Nat.ne_of_gt hlL) (hnone _ (Nat.le_succ _)) (hnone _ (Nat.le_refl _)) (fun p hp' => Nat.ne_of_lt (Nat.lt_succ_of_lt (hold p hp'))) (fun p hp' => Nat.ne_of_lt (hold p hp'))
    he hit F' N' hl hes J h0 step hR

def hpf : List Ent → List Ent
  | [a, b] => if a.lt b then [a, b] else [b, a]
  | l => l
def psh : List Ent → Ent → List Ent
  | [], q => [q]
  | [a], q => if q.lt a then [q, a] else [a, q]
  | [a, b], q => if q.lt a then [q, b, a] else [a, b, q]
  | l, _ => l
def ppp : List Ent → List Ent
  | [_, b, c] => if c.lt b then [c, b] else [b, c]
  | [_, b] => [b]
  | _ => []
theorem heapify_es {H : Addr} {es : List Ent} {n : Nat} {Q : Value → Shared → Prop} (h2 : es.length ≤ 2) (hne : es.Pairwise fun a b => a.c ≠ b.c) (hH : s.heap.get? H = some (listOf (refs es) n)) (hes : ∀ e ∈ es, s.heap.get? e.q = some e.obj) (hu : A.units < 9000)
    (h : ∀ h', Heap.SameBut H s.heap h' → h'.get? H = some (listOf (refs (hpf es)) n) → Q .none { s with heap := h' }) :
    wpAny (model prog w) A (call (.builtin "_heapq.heapify") [.ref H]) Q E s := by
  match es, h2, hne, hH, hes, h with
  | [], _, _, hH, _, h => exact heapify0 hH (h _ (Heap.SameBut.refl _ _) hH)
  | [a], _, _, hH, _, h => exact heapify1 (a := a) hH (h _ (Heap.SameBut.refl _ _) hH)
  | [a, b], _, hne, hH, hes, h =>
    refine heapify2 (a := a) (b := b) (by simpa using hne) hH (hes a (by simp)) (hes b (by simp)) hu fun h' hs hh' => h h' hs ?_
    rw [hh']; show _ = some (listOf (refs (if a.lt b = true then [a, b] else [b, a])) n); cases a.lt b <;> rfl
theorem heappush_es {H : Addr} {es : List Ent} {q : Ent} {n : Nat} {Q : Value → Shared → Prop} (h2 : es.length ≤ 2) (hne : ∀ e ∈ es, q.c ≠ e.c) (hH : s.heap.get? H = some (listOf (refs es) n)) (hes : ∀ e ∈ es, s.heap.get? e.q = some e.obj) (hq : s.heap.get? q.q = some q.obj) (hu : A.units < 9000)
    (h : ∀ h', Heap.SameBut H s.heap h' → h'.get? H = some (listOf (refs (psh es q)) (n + 1)) → Q .none { s with heap := h' }) :
    wpAny (model prog w) A (call (.builtin "_heapq.heappush") [.ref H, .ref q.q]) Q E s := by
  match es, h2, hne, hH, hes, h with
  | [], _, _, hH, _, h => exact heappush0 hH h
  | [a], _, hne, hH, hes, h =>
    refine heappush1 (a := a) (hne a (by simp)) hH (hes a (by simp)) hq hu fun h' hs hh' => h h' hs ?_
    rw [hh']; show _ = some (listOf (refs (if q.lt a = true then [q, a] else [a, q])) (n + 1)); cases q.lt a <;> rfl
  | [a, b], _, hne, hH, hes, h =>
    refine heappush2 (a := a) (b := b) (hne a (by simp)) hH (hes a (by simp)) hq hu fun h' hs hh' => h h' hs ?_
    rw [hh']; show _ = some (listOf (refs (if q.lt a = true then [q, b, a] else [a, b, q])) (n + 1)); cases q.lt a <;> rfl
theorem heappop_es {H : Addr} {e : Ent} {es : List Ent} {n : Nat} {Q : Value → Shared → Prop} (h2 : es.length ≤ 2) (hne : es.Pairwise fun a b => b.c ≠ a.c) (hH : s.heap.get? H = some (listOf (refs (e :: es)) n)) (hes : ∀ e ∈ es, s.heap.get? e.q = some e.obj) (hu : A.units < 9000)
    (h : ∀ h', Heap.SameBut H s.heap h' → h'.get? H = some (listOf (refs (ppp (e :: es))) (n + 1)) → Q (.ref e.q) { s with heap := h' }) :
    wpAny (model prog w) A (call (.builtin "_heapq.heappop") [.ref H]) Q E s := by
  match es, h2, hne, hH, hes, h with
  | [], _, _, hH, _, h => exact heappop1 hH h
  | [b], _, hne, hH, hes, h => exact heappop2 (b := b) hH h
  | [b, c], _, hne, hH, hes, h =>
    refine heappop3 (a := e) (b := b) (c := c) (by simpa using hne) hH (hes b (by simp)) (hes c (by simp)) hu fun h' hs hh' => h h' hs ?_
    rw [hh']; show _ = some (listOf (refs (if c.lt b = true then [c, b] else [b, c])) (n + 1)); cases c.lt b <;> rfl
end
end Mine
end

section
open PySem PySem.W PyProof.Rows PySem.Calls
set_option maxRecDepth 100000
set_option maxHeartbeats 4000000
namespace Mine
theorem news_sub {h₀ h : Heap} {L : Addr} {l l' : List (Addr × Obj)} (N : News h₀ L h l) (hs : ∀ p ∈ l', p ∈ l) : News h₀ L h l' := fun p hp => N p (hs p hp)
theorem news_drop2 {h₀ h : Heap} {L : Addr} {a b : Addr × Obj} {l : List (Addr × Obj)} (N : News h₀ L h (a :: b :: l)) : News h₀ L h (a :: l) := fun p hp => N p (by rcases List.mem_cons.mp hp with h | h; exact h ▸ .head _; exact .tail _ (.tail _ h))
theorem news_swap {h₀ h : Heap} {L : Addr} {a b : Addr × Obj} {l : List (Addr × Obj)} (N : News h₀ L h (a :: b :: l)) : News h₀ L h (b :: a :: l) := fun p hp => N p (by
  rcases List.mem_cons.mp hp with h | h
  · exact h ▸ .tail _ (.head _)
  · rcases List.mem_cons.mp h with h | h
    · exact h ▸ .head _
    · exact .tail _ (.tail _ h))
theorem hpf_perm (l : List Ent) : (hpf l).Perm l := by
  unfold hpf
  split
  · split
    · exact .refl _
    · exact .swap _ _ _
  · exact .refl _
theorem hpf_len (l : List Ent) : (hpf l).length = l.length := (hpf_perm l).length_eq
theorem psh_perm {l : List Ent} (q : Ent) (h : l.length ≤ 2) : (psh l q).Perm (q :: l) := by
  match l, h with
  | [], _ => exact .refl _
  | [a], _ =>
    show (if q.lt a = true then [q, a] else [a, q]).Perm _
    split
    · exact .refl _
    · exact .swap _ _ _
  | [a, b], _ =>
    show (if q.lt a = true then [q, b, a] else [a, b, q]).Perm _
    split
    · exact .cons _ (.swap _ _ _)
    · exact (List.perm_append_comm (l₁ := [a, b]) (l₂ := [q]))
theorem ppp_perm {e : Ent} {es : List Ent} (h : es.length ≤ 2) : (ppp (e :: es)).Perm es := by
  match es, h with
  | [], _ => exact .refl _
  | [b], _ => exact .refl _
  | [b, c], _ =>
    show (if c.lt b = true then [c, b] else [b, c]).Perm _
    split
    · exact .swap _ _ _
    · exact .refl _
theorem ppp_mem {e x : Ent} {es : List Ent} (h2 : es.length ≤ 2) (hx : x ∈ ppp (e :: es)) : x ∈ es := by
  match es, h2, hx with
  | [], _, hx => exact absurd hx (by simp [ppp])
  | [b], _, hx => simpa [ppp] using hx
  | [b, c], _, hx =>
    have hx' : x ∈ (if c.lt b = true then [c, b] else [b, c]) := hx
    cases hc : c.lt b <;> rw [hc] at hx' <;> simp at hx' ⊢
    · exact hx'
    · exact hx'.symm
theorem ppp_len {e : Ent} {es : List Ent} (h2 : es.length ≤ 2) : (ppp (e :: es)).length ≤ 2 := by
  match es, h2 with
  | [], _ => simp [ppp]
  | [b], _ => simp [ppp]
  | [b, c], _ =>
    show (if c.lt b = true then [c, b] else [b, c]).length ≤ 2
    cases c.lt b <;> simp
section
variable {prog : Program} {w : World} {A : Around} {E : Value → Shared → Prop} {s : Shared} {h₀ : Heap} {L : Addr} {m : Str → Option Value} {rest : List (Addr × Obj)}
theorem map_erase {α β : Type} (f : α → β) : ∀ (l : List α) (i : Nat), (l.map f).eraseIdx i = (l.eraseIdx i).map f
  | [], _ => rfl
  | _ :: _, 0 => rfl
  | a :: l, i + 1 => by simp [map_erase f l i]
theorem refs_erase (es : List Ent) (i : Nat) : ((refs es).toList.eraseIdx i).toArray = refs (es.eraseIdx i) := by
  show ((es.map _).eraseIdx i).toArray = _
  rw [map_erase]
theorem del_es {H : Addr} {es : List Ent} {n i : Nat} {u : Tok} {Q : Unit → Shared → Prop} (F : Fr h₀ L s.heap m) (N : News h₀ L s.heap ((H, listOf (refs es) n) :: rest)) (hap : ∀ p ∈ rest, p.1 ≠ H) (hi : i < es.length) (h3 : es.length ≤ 4)
    (h : ∀ h', Fr h₀ L h' m → News h₀ L h' ((H, listOf (refs (es.eraseIdx i)) (n + 1)) :: rest) → Q () { s with heap := h' }) : wpAny (model prog w) A (delItem (.ref H) (.int (i : Nat) u)) Q E s := by
  have hz : (refs es).size = es.length := by simp [refs]
  have hl : sizeLine = 16777216 := by decide +kernel
  refine delItem_head (k := i) F N hap ?_ ?_ (fun h' F' N' => h h' F' ?_) (by rw [hl, hz]; omega)
  · unfold Builtin.List.listFitsIndex; simp; omega
  · unfold seqIndex?; rw [hz]; simp; omega
  · rw [refs_erase] at N'; exact N'
theorem heapify_N {H : Addr} {es : List Ent} {n : Nat} {Q : Value → Shared → Prop} (F : Fr h₀ L s.heap m) (N : News h₀ L s.heap ((H, listOf (refs es) n) :: rest)) (hap : ∀ p ∈ rest, p.1 ≠ H) (h2 : es.length ≤ 2) (hne : es.Pairwise fun a b => a.c ≠ b.c) (hes : ∀ e ∈ es, (e.q, e.obj) ∈ rest) (hu : A.units < 9000)
    (h : ∀ h', Fr h₀ L h' m → News h₀ L h' ((H, listOf (refs (hpf es)) n) :: rest) → Q .none { s with heap := h' }) : wpAny (model prog w) A (call (.builtin "_heapq.heapify") [.ref H]) Q E s :=
  heapify_es h2 hne (N _ (List.Mem.head _)).1 (fun e he => (N _ (.tail _ (hes e he))).1) hu fun h' hs hh' => h h' (F.change hs (N _ (List.Mem.head _)).2.1 (N _ (List.Mem.head _)).2.2) (N.setHead hap hs hh')
theorem heappush_N {H : Addr} {es : List Ent} {q : Ent} {n : Nat} {Q : Value → Shared → Prop} (F : Fr h₀ L s.heap m) (N : News h₀ L s.heap ((H, listOf (refs es) n) :: rest)) (hap : ∀ p ∈ rest, p.1 ≠ H) (h2 : es.length ≤ 2) (hne : ∀ e ∈ es, q.c ≠ e.c) (hes : ∀ e ∈ es, (e.q, e.obj) ∈ rest) (hq : (q.q, q.obj) ∈ rest) (hu : A.units < 9000)
    (h : ∀ h', Fr h₀ L h' m → News h₀ L h' ((H, listOf (refs (psh es q)) (n + 1)) :: rest) → Q .none { s with heap := h' }) : wpAny (model prog w) A (call (.builtin "_heapq.heappush") [.ref H, .ref q.q]) Q E s :=
  heappush_es h2 hne (N _ (List.Mem.head _)).1 (fun e he => (N _ (.tail _ (hes e he))).1) (N _ (.tail _ hq)).1 hu fun h' hs hh' => h h' (F.change hs (N _ (List.Mem.head _)).2.1 (N _ (List.Mem.head _)).2.2) (N.setHead hap hs hh')
theorem heappop_N {H : Addr} {e : Ent} {es : List Ent} {n : Nat} {Q : Value → Shared → Prop} (F : Fr h₀ L s.heap m) (N : News h₀ L s.heap ((H, listOf (refs (e :: es)) n) :: rest)) (hap : ∀ p ∈ rest, p.1 ≠ H) (h2 : es.length ≤ 2) (hne : es.Pairwise fun a b => b.c ≠ a.c) (hes : ∀ e ∈ es, (e.q, e.obj) ∈ rest) (hu : A.units < 9000)
    (h : ∀ h', Fr h₀ L h' m → News h₀ L h' ((H, listOf (refs (ppp (e :: es))) (n + 1)) :: rest) → Q (.ref e.q) { s with heap := h' }) : wpAny (model prog w) A (call (.builtin "_heapq.heappop") [.ref H]) Q E s :=
  heappop_es h2 hne (N _ (List.Mem.head _)).1 (fun e he => (N _ (.tail _ (hes e he))).1) hu fun h' hs hh' => h h' (F.change hs (N _ (List.Mem.head _)).2.1 (N _ (List.Mem.head _)).2.2) (N.setHead hap hs hh')
theorem truthy_refs {H : Addr} {es : List Ent} {n : Nat} {news : List (Addr × Obj)} {Q : Bool → Shared → Prop} (N : News h₀ L s.heap news) (hm : (H, listOf (refs es) n) ∈ news) (h3 : es.length ≤ 4)
    (h : Q (!es.isEmpty) { s with toks := s.toks + 1 + 1 }) : wpAny (model prog w) A (truthy (.ref H)) Q E s := by
  have hz : (refs es).size = es.length := by simp [refs]
  refine wpAny_truthy_list (items := refs es) ⟨_, (N _ hm).1, rfl, n, rfl⟩ (by rw [hz]; omega) ?_
  have : (refs es).isEmpty = es.isEmpty := by simp [refs]
  rw [this]; exact h
theorem is_ne_ref {M : Model} {A : Around} {E : Value → Shared → Prop} {s : Shared} {x y : Addr} {ox oy : Obj} {Q : Value → Shared → Prop} (hxy : x ≠ y) (hx : s.heap.get? x = some ox) (hy : s.heap.get? y = some oy) (hnt : oy.cls ≠ .type "tuple") (h : Q (.bool false) s) :
    wpAny M A (compareOp .Is (.ref x) (.ref y)) Q E s := by
  show wpAny M A (do return .bool (← isSame (.ref x) (.ref y))) Q E s
  exact wpAny_bind (SeqAt.wpAny_isSame_ref_other' hxy hx hy hnt (wpAny_pure h))
end
end Mine
end

section
open PySem PySem.W PyProof.Rows PySem.Calls
namespace Mine
abbrev T18 (s₀ : Shared) (mg mb : Str → Option Value) (h : Heap) : Prop := Top hd.view_39 (looseW hd.view_39 [Str.ofString "_Task", Str.ofString "OneShotTask", Str.ofString "count"]) (ExcName.means s₀.heap) mg mb h
theorem pin2 {m : Str → Option Value} {a b : Str} {va vb : Option Value} (h1 : m a = va) (h2 : m b = vb) : m = fun y => if y = a then va else if y = b then vb else m y := by
  funext y
  by_cases ha : y = a
  · subst ha; rw [if_pos rfl]; exact h1
  · rw [if_neg ha]
    by_cases hb : y = b
    · subst hb; rw [if_pos rfl]; exact h2
    · rw [if_neg hb]
local macro_rules | `(tactic| k_room) => `(tactic| ((try simp only [depth_mark, depth_under_make, depth_under_kw, depth_in1, depth_deeper, depth_caller, recursionLimit]); omega))
local macro_rules | `(tactic| k_units) => `(tactic| ((try simp only [cLine, units_in1, units_deeper, Around.mark_units, units_caller]); omega))
local macro_rules | `(tactic| walk_at "exec For Tuple Call cons nil") => `(tactic| (k_here; (with_unfolding_all refine For_enumAt ?_)))

set_option maxRecDepth 100000 in
set_option maxHeartbeats 8000000 in
theorem susp {w : World} {A₀ : Around} {env : Env} {outer : List Env} {d u : Nat} {gs : Option (List Code)} {base h₀ : Heap} {L : Addr} {s s₀ : Shared} {m mg mb : Str → Option Value}
  {Q : Value → Shared → Prop} {E : Value → Shared → Prop} {rest : List (Addr × Obj)} {M dM H C t dt : Addr} {es : List Ent} {nH : Nat} {hs1 hs2 hs3 hs4 hs5 hs6 : Int} {tk1 tk2 tk3 tk4 tk5 tk6 tk7 : Tok} {now : Int} {vt : Value} {bt : Bool}
  (hd9 : d ≤ 320) (hu9 : u ≤ 300) (hf9 : env.frame = some L) (hk9 : env.scope.kind = .function)
  (B : Below A₀ base outer h₀) (X : (hd.heap_39 w.params).In h₀) (T : T18 s₀ mg mb h₀) (F : Fr h₀ L s.heap m)
  (n1 : @Ne Nat M H) (n2 : @Ne Nat dM H) (n3 : @Ne Nat t H) (n4 : @Ne Nat dt H) (n5 : @Ne Nat M dt) (n6 : @Ne Nat dM dt) (n7 : @Ne Nat t dt) (hoff : OwnOff rest [H, dt]) (hpw : es.Pairwise fun a b => a.c ≠ b.c)
  (hes : ∀ x ∈ es, (x.q, x.obj) ∈ rest) (hes3 : es.length ≤ 3) (hts : ∀ x ∈ es, ∃ dx, (x.t, instObj 123 dx) ∈ (t, instObj 123 dt) :: rest)
  (N : News h₀ L s.heap ((H, listOf (refs es) nH) :: (M, instObj 244 dM) :: (dM, dictOf [⟨hs1, .str (Str.ofString "tasks") tk1, .ref H⟩, ⟨hs2, .str (Str.ofString "now") tk2, .int now tk3⟩, ⟨hs3, .str (Str.ofString "counter") tk4, .ref C⟩] 3)
     :: (t, instObj 123 dt) :: (dt, dictOf [⟨hs4, .str (Str.ofString "taskTime") tk5, vt⟩, ⟨hs5, .str (Str.ofString "isScheduled") tk6, .bool bt⟩, ⟨hs6, .str (Str.ofString "taskManager") tk7, .ref M⟩] 3) :: rest))
  (hQ1 : (∀ x ∈ es, x.t ≠ t) → ∀ h' tk', Fr h₀ L h' m → News h₀ L h' ((H, listOf (refs es) nH) :: (M, instObj 244 dM) :: (dM, dictOf [⟨hs1, .str (Str.ofString "tasks") tk1, .ref H⟩, ⟨hs2, .str (Str.ofString "now") tk2, .int now tk3⟩, ⟨hs3, .str (Str.ofString "counter") tk4, .ref C⟩] 3) :: (t, instObj 123 dt) :: (dt, dictOf [⟨hs4, .str (Str.ofString "taskTime") tk5, vt⟩, ⟨hs5, .str (Str.ofString "isScheduled") tk6, .bool bt⟩, ⟨hs6, .str (Str.ofString "taskManager") tk7, .ref M⟩] 3) :: rest) → Q .none { s with heap := h', toks := tk' })
  (hQ2 : ∀ i x, es[i]? = some x → x.t = t → (∀ j y, j < i → es[j]? = some y → y.t ≠ t) → ∀ h' tk', Fr h₀ L h' m → News h₀ L h' ((H, listOf (refs (hpf (es.eraseIdx i))) (nH + 1)) :: (M, instObj 244 dM) :: (dM, dictOf [⟨hs1, .str (Str.ofString "tasks") tk1, .ref H⟩, ⟨hs2, .str (Str.ofString "now") tk2, .int now tk3⟩, ⟨hs3, .str (Str.ofString "counter") tk4, .ref C⟩] 3) :: (t, instObj 123 dt) :: (dt, dictOf [⟨hs4, .str (Str.ofString "taskTime") tk5, vt⟩, ⟨hs5, .str (Str.ofString "isScheduled") tk6, .bool false⟩, ⟨hs6, .str (Str.ofString "taskManager") tk7, .ref M⟩] 3) :: rest) → Q .none { s with heap := h', toks := tk' })
  : wpAny (model Challenge.rw_fe0018_01.row.prog w) ⟨none, d, some (env :: outer), gs, u⟩ (call (.ref 227) [.ref M, .ref t]) Q E s := by
  revert X; k_fill; intro X
  try k_fold
  refine wpAny_call ?_
  (refine' code_def ?k1 ?k2 ?k3 ?k4 ?k5 ?kA ?kF ?kK ?k6 ?k7 ?k8 ?k9 ?kB ?_ ?c2 ?c3 ?c4 ?c5; (case kA => exact rfl); (case kF => first | exact rfl | assumption); (case kK => first | exact rfl | assumption); (case k1 => k_asm); (case k2 => k_asm); (case k3 => k_asm); (case k4 => k_asm); (case k5 => k_asm); (case k6 => k_is); (case k7 => k_is); (case k8 => k_room); (case k9 => first | exact BindsTo.of_eq rfl | exact binds_K (by k_in) rfl (by k_is) rfl rfl rfl | fail "k_enter: no rule for these arguments"); (case c5 => decide); (case kB => exact locs rfl); (case c2 => exact rfl); (case c3 => exact rfl); (case c4 => exact rfl); k_whole; intro g' L' h' FG' F' N' B' X' T'; (try dsimp only); (try k_lift B'); (try k_fold))
  k_steps
  refine enum_at3 (hd := [_, _, _, _, _]) (rest := rest) F' N' (List.Mem.head _) (fun x hx => ?hes) rfl rfl rfl rfl rfl rfl (fun i m => (∀ j x, j < i → es[j]? = some x → x.t ≠ t) ∧ ∃ u : Str → Option Value, m = fun y => if y = Str.ofString "self" then some (.ref M) else if y = Str.ofString "task" then some (.ref t) else u y) ?h0 ?step ?hR
  case hes => exact List.mem_append_right _ (hes x hx)
  case h0 => exact ⟨(fun j x hj => absurd hj (Nat.not_lt_zero _)), _, pin2 (by exact rfl) (by exact rfl)⟩
  case step =>
    rintro i ⟨q, w, tw, c, tc, t'⟩ h tk tki m₁ own hx ⟨hbefore, u, rfl⟩ hsep F₁ N₁
    by_cases hxt : t' = t
    · subst hxt
      simp only [List.cons_append, List.nil_append] at N₁
      clear N' F'
      have hoff1 : OwnOff (own ++ rest) [H, dt] := fun p hp b hb => by
        rcases List.mem_append.mp hp with q | q
        · rcases List.mem_cons.mp hb with rfl | hb
          · exact hsep p q (_, _) (List.Mem.head _)
          · rcases List.mem_cons.mp hb with rfl | hb
            · exact hsep p q (_, _) (.tail _ (.tail _ (.tail _ (.tail _ (.head _)))))
            · cases hb
        · exact hoff p q b hb
      have hi : i < es.length := (List.getElem?_eq_some_iff.mp hx).1
      have hes1 : ∀ x ∈ es.eraseIdx i, (x.q, x.obj) ∈ own ++ rest := fun x hx => List.mem_append_right _ (hes x (List.mem_of_mem_eraseIdx hx))
      have hlen : (es.eraseIdx i).length ≤ 2 := by rw [List.length_eraseIdx, if_pos hi]; omega
      have hpw1 : (es.eraseIdx i).Pairwise fun a b => a.c ≠ b.c := hpw.sublist (List.eraseIdx_sublist ..)
      have hR9 : ∀ p ∈ rest, p ∈ own ++ rest := fun p hp => List.mem_append_right _ hp
      generalize own ++ rest = R9 at N₁ hoff1 hes1 hR9
      k_steps
      refine del_es F₁ N₁ (by k_all) hi (by omega) fun h1 F₂ N₂ => ?_
      clear F₁ N₁
      k_steps
      (rename Fr _ _ _ _ => F₃); (rename News _ _ _ _ => N₃)
      refine heapify_N F₃ N₃ (by k_all) hlen hpw1 (fun x hx => ?_) (by simp; omega) fun h2 F₄ N₄ => ?_
      · exact .tail _ (.tail _ (.tail _ (.tail _ (hes1 x hx))))
      clear F₃ N₃
      k_steps
      (rename Fr _ _ _ _ => F₅); (rename News _ _ _ _ => N₅)
      refine hQ2 i _ hx rfl hbefore _ _ F₅ fun p hp => N₅ p ?_
      simp only [List.mem_cons] at hp ⊢
      rcases hp with h | h | h | h | h | h
      · exact .inl h
      · exact .inr (.inl h)
      · exact .inr (.inr (.inl h))
      · exact .inr (.inr (.inr (.inl h)))
      · exact .inr (.inr (.inr (.inr (.inl h))))
      · exact .inr (.inr (.inr (.inr (.inr (hR9 p h)))))
    · k_steps
      obtain ⟨dx, hdx⟩ := hts _ (List.mem_of_getElem? hx)
      have hdx' : (t', instObj 123 dx) ∈ [(H, listOf (refs es) nH), (M, instObj 244 dM), (dM, dictOf [⟨hs1, .str (Str.ofString "tasks") tk1, .ref H⟩, ⟨hs2, .str (Str.ofString "now") tk2, .int now tk3⟩, ⟨hs3, .str (Str.ofString "counter") tk4, .ref C⟩] 3), (t, instObj 123 dt), (dt, dictOf [⟨hs4, .str (Str.ofString "taskTime") tk5, vt⟩, ⟨hs5, .str (Str.ofString "isScheduled") tk6, .bool bt⟩, ⟨hs6, .str (Str.ofString "taskManager") tk7, .ref M⟩] 3)] ++ (own ++ rest) := by
        rcases List.mem_cons.mp hdx with h | h
        · exact absurd (congrArg Prod.fst h) hxt
        · exact List.mem_append_right _ (List.mem_append_right _ h)
      refine is_ne_ref (Ne.symm hxt) (N₁ _ (.tail _ (.tail _ (.tail _ (.head _))))).1 (N₁ _ hdx').1 (by show Value.ref 123 ≠ Value.type "tuple"; exact fun e => nomatch e) ?_
      k_steps
      refine ⟨_, _, _, rfl, F₁, N₁, fun j y hj hy => ?_, _, pin2 (by exact rfl) (by exact rfl)⟩
      rcases Nat.lt_succ_iff_lt_or_eq.mp hj with h | rfl
      · exact hbefore j y h hy
      · rw [hx] at hy; cases hy; exact hxt
  case hR =>
    intro h1 tk1 m1 F₁ N₁ hJ
    k_steps
    (rename Fr _ _ _ _ => F₅); (rename News _ _ _ _ => N₅)
    exact hQ1 (fun x hx => by obtain ⟨j, hj⟩ := List.getElem?_of_mem hx; exact hJ.1 j x (List.getElem?_eq_some_iff.mp hj).1 hj) _ _ F₅ N₅
end Mine
end

section
open PySem PySem.W PyProof.Rows PySem.Calls
namespace Mine
local macro_rules | `(tactic| walk_at "idle line 0") => `(tactic| fail "idle")
local macro_rules | `(tactic| k_room) => `(tactic| ((try simp only [depth_mark, depth_under_make, depth_under_kw, depth_in1, depth_deeper, depth_caller, recursionLimit]); omega))
local macro_rules | `(tactic| k_units) => `(tactic| ((try simp only [cLine, units_in1, units_deeper, Around.mark_units, units_caller]); omega))
local macro_rules | `(tactic| walk_at "truthy ref") => `(tactic| (k_here; (with_reducible show wpAny _ _ (truthy (Value.ref _)) _ _ _); (k_dflt (refine' truthy_refs ?N ?m ?z ?_; (case N => k_asm); (case m => k_mem); (case z => first | assumption | (simp only [List.length_cons, List.length_nil] at *; omega)); k_whole)); (try dsimp only [List.isEmpty, Bool.not_false, Bool.not_true])))
/-- the manager's two entries -/
abbrev mgr (M dM H C : Addr) (hs1 hs2 hs3 : Int) (tk1 tk2 tk3 tk4 : Tok) (now : Int) : List (Addr × Obj) := [(M, instObj 244 dM), (dM, dictOf [⟨hs1, .str (Str.ofString "tasks") tk1, .ref H⟩, ⟨hs2, .str (Str.ofString "now") tk2, .int now tk3⟩, ⟨hs3, .str (Str.ofString "counter") tk4, .ref C⟩] 3)]

theorem dec0 : Float64.decode 0 = .fin false 0 (-1074) := by first | rfl | kernel_rfl
theorem cmp0 (x : Int) : (Float64.cmpInt 0 x == some Ordering.gt) = decide (x < 0) := by
  have hp : (0 : Int) < 2 ^ (1074 : Nat) := by exact Int.pow_pos (by decide)
  unfold Float64.cmpInt
  rw [dec0]
  simp only [show ¬ ((-1074 : Int) ≥ 0) by decide, if_false, show (-(-1074 : Int)).toNat = 1074 by decide]
  have hs : Float64.sgn false 0 = 0 := by decide
  rw [hs]
  generalize (2 : Int) ^ (1074 : Nat) = P at hp
  by_cases hx : x < 0
  · have : x * P < 0 := Int.mul_neg_of_neg_of_pos hx hp
    rw [show compare (0:Int) (x * P) = .gt from Int.compare_eq_gt.mpr this]; simp [hx]
  · have : 0 ≤ x * P := Int.mul_nonneg (by omega) (by omega)
    have h2 : compare (0:Int) (x * P) ≠ .gt := fun e => by have := Int.compare_eq_gt.mp e; omega
    simp [hx, h2]
set_option maxRecDepth 100000 in
set_option maxHeartbeats 8000000 in
theorem gnt0 {w : World} {A₀ : Around} {env : Env} {outer : List Env} {d u : Nat} {gs : Option (List Code)} {base h₀ : Heap} {L : Addr} {s s₀ : Shared} {m mg mb : Str → Option Value}
  {Q : Value → Shared → Prop} {E : Value → Shared → Prop} {rest : List (Addr × Obj)} {M dM H C : Addr} {nH : Nat} {hs1 hs2 hs3 : Int} {tk1 tk2 tk3 tk4 : Tok} {now : Int}
  (hd9 : d ≤ 320) (hu9 : u ≤ 300) (hf9 : env.frame = some L) (hk9 : env.scope.kind = .function)
  (B : Below A₀ base outer h₀) (X : (hd.heap_39 w.params).In h₀) (T : T18 s₀ mg mb h₀) (F : Fr h₀ L s.heap m)
  (N : News h₀ L s.heap ((H, listOf #[] nH) :: (M, instObj 244 dM) :: (dM, dictOf [⟨hs1, .str (Str.ofString "tasks") tk1, .ref H⟩, ⟨hs2, .str (Str.ofString "now") tk2, .int now tk3⟩, ⟨hs3, .str (Str.ofString "counter") tk4, .ref C⟩] 3) :: rest))
  (hQ : ∀ D h' tk', Fr h₀ L h' m → News h₀ L h' ((D, { cls := .type "tuple", data := .seq #[.none, .none] }) :: (H, listOf #[] nH) :: (M, instObj 244 dM) :: (dM, dictOf [⟨hs1, .str (Str.ofString "tasks") tk1, .ref H⟩, ⟨hs2, .str (Str.ofString "now") tk2, .int now tk3⟩, ⟨hs3, .str (Str.ofString "counter") tk4, .ref C⟩] 3) :: rest) → Q (.ref D) { s with heap := h', toks := tk' })
  : wpAny (model Challenge.rw_fe0018_01.row.prog w) ⟨none, d, some (env :: outer), gs, u⟩ (call (.ref 234) [.ref M]) Q E s := by
  revert X; k_fill; intro X
  try k_fold
  refine wpAny_call ?_
  (refine' code_def ?k1 ?k2 ?k3 ?k4 ?k5 ?kA ?kF ?kK ?k6 ?k7 ?k8 ?k9 ?kB ?_ ?c2 ?c3 ?c4 ?c5; (case kA => exact rfl); (case kF => first | exact rfl | assumption); (case kK => first | exact rfl | assumption); (case k1 => k_asm); (case k2 => k_asm); (case k3 => k_asm); (case k4 => k_asm); (case k5 => k_asm); (case k6 => k_is); (case k7 => k_is); (case k8 => k_room); (case k9 => first | exact BindsTo.of_eq rfl | exact binds_K (by k_in) rfl (by k_is) rfl rfl rfl | fail "k_enter: no rule for these arguments"); (case c5 => decide); (case kB => exact locs rfl); (case c2 => exact rfl); (case c3 => exact rfl); (case c4 => exact rfl); k_whole; intro g' L' h' FG' F' N' B' X' T'; (try dsimp only); (try k_lift B'); (try k_fold))
  k_steps
  (rename Fr _ _ _ _ => F₅); (rename News _ _ _ _ => N₅)
  exact hQ _ _ _ F₅ N₅
set_option maxRecDepth 100000 in
set_option maxHeartbeats 8000000 in
theorem gnt1 {w : World} {A₀ : Around} {env : Env} {outer : List Env} {d u : Nat} {gs : Option (List Code)} {base h₀ : Heap} {L : Addr} {s s₀ : Shared} {m mg mb : Str → Option Value}
  {Q : Value → Shared → Prop} {E : Value → Shared → Prop} {rest : List (Addr × Obj)} {M dM H C : Addr} {nH : Nat} {hs1 hs2 hs3 : Int} {tk1 tk2 tk3 tk4 : Tok} {now : Int} {e : Ent} {es : List Ent} {dt : Addr} {hs4 hs5 hs6 : Int} {tk5 tk6 tk7 : Tok} {vt : Value} {bt : Bool} (h3 : (e :: es).length ≤ 4) (h39 : es.length ≤ 2)
  (n1 : @Ne Nat M H) (n2 : @Ne Nat dM H) (n3 : @Ne Nat e.t H) (n4 : @Ne Nat dt H) (n5 : @Ne Nat M dt) (n6 : @Ne Nat dM dt) (n7 : @Ne Nat e.t dt) (n8 : @Ne Nat e.q H) (n9 : @Ne Nat e.q dt) (hoff : OwnOff rest [H, dt]) (hpw : (e :: es).Pairwise fun a b => a.c ≠ b.c) (hes : ∀ x ∈ es, (x.q, x.obj) ∈ rest)
  (hd9 : d ≤ 320) (hu9 : u ≤ 300) (hf9 : env.frame = some L) (hk9 : env.scope.kind = .function)
  (B : Below A₀ base outer h₀) (X : (hd.heap_39 w.params).In h₀) (T : T18 s₀ mg mb h₀) (F : Fr h₀ L s.heap m)
  (N : News h₀ L s.heap ((H, listOf (refs (e :: es)) nH) :: (M, instObj 244 dM) :: (dM, dictOf [⟨hs1, .str (Str.ofString "tasks") tk1, .ref H⟩, ⟨hs2, .str (Str.ofString "now") tk2, .int now tk3⟩, ⟨hs3, .str (Str.ofString "counter") tk4, .ref C⟩] 3) :: (e.q, e.obj) :: (e.t, instObj 123 dt) :: (dt, dictOf [⟨hs4, .str (Str.ofString "taskTime") tk5, vt⟩, ⟨hs5, .str (Str.ofString "isScheduled") tk6, .bool bt⟩, ⟨hs6, .str (Str.ofString "taskManager") tk7, .ref M⟩] 3) :: rest))
  (hQ1 : now < e.w → ∀ D h' tk' tv, Fr h₀ L h' m → News h₀ L h' ((D, { cls := .type "tuple", data := .seq #[.none, .int (e.w - now) tv] }) :: (H, listOf (refs (e :: es)) nH) :: (M, instObj 244 dM) :: (dM, dictOf [⟨hs1, .str (Str.ofString "tasks") tk1, .ref H⟩, ⟨hs2, .str (Str.ofString "now") tk2, .int now tk3⟩, ⟨hs3, .str (Str.ofString "counter") tk4, .ref C⟩] 3) :: (e.q, e.obj) :: (e.t, instObj 123 dt) :: (dt, dictOf [⟨hs4, .str (Str.ofString "taskTime") tk5, vt⟩, ⟨hs5, .str (Str.ofString "isScheduled") tk6, .bool bt⟩, ⟨hs6, .str (Str.ofString "taskManager") tk7, .ref M⟩] 3) :: rest) → Q (.ref D) { s with heap := h', toks := tk' })
  (hQ2 : e.w ≤ now → ppp (e :: es) = [] → ∀ D h' tk', Fr h₀ L h' m → News h₀ L h' ((D, { cls := .type "tuple", data := .seq #[.ref e.t, .none] }) :: (H, listOf (refs ([])) (nH + 1)) :: (M, instObj 244 dM) :: (dM, dictOf [⟨hs1, .str (Str.ofString "tasks") tk1, .ref H⟩, ⟨hs2, .str (Str.ofString "now") tk2, .int now tk3⟩, ⟨hs3, .str (Str.ofString "counter") tk4, .ref C⟩] 3) :: (e.q, e.obj) :: (e.t, instObj 123 dt) :: (dt, dictOf [⟨hs4, .str (Str.ofString "taskTime") tk5, vt⟩, ⟨hs5, .str (Str.ofString "isScheduled") tk6, .bool false⟩, ⟨hs6, .str (Str.ofString "taskManager") tk7, .ref M⟩] 3) :: rest) → Q (.ref D) { s with heap := h', toks := tk' })
  (hQ3 : e.w ≤ now → ∀ e2 es2, ppp (e :: es) = e2 :: es2 → ∀ D h' tk' v tv, (v = .float 0 tv ∧ e2.w < now ∨ v = .int (e2.w - now) tv ∧ now ≤ e2.w) → Fr h₀ L h' m → News h₀ L h' ((D, { cls := .type "tuple", data := .seq #[.ref e.t, v] }) :: (H, listOf (refs (e2 :: es2)) (nH + 1)) :: (M, instObj 244 dM) :: (dM, dictOf [⟨hs1, .str (Str.ofString "tasks") tk1, .ref H⟩, ⟨hs2, .str (Str.ofString "now") tk2, .int now tk3⟩, ⟨hs3, .str (Str.ofString "counter") tk4, .ref C⟩] 3) :: (e.q, e.obj) :: (e.t, instObj 123 dt) :: (dt, dictOf [⟨hs4, .str (Str.ofString "taskTime") tk5, vt⟩, ⟨hs5, .str (Str.ofString "isScheduled") tk6, .bool false⟩, ⟨hs6, .str (Str.ofString "taskManager") tk7, .ref M⟩] 3) :: rest) → Q (.ref D) { s with heap := h', toks := tk' })
  : wpAny (model Challenge.rw_fe0018_01.row.prog w) ⟨none, d, some (env :: outer), gs, u⟩ (call (.ref 234) [.ref M]) Q E s := by
  revert X; k_fill; intro X
  try k_fold
  refine wpAny_call ?_
  (refine' code_def ?k1 ?k2 ?k3 ?k4 ?k5 ?kA ?kF ?kK ?k6 ?k7 ?k8 ?k9 ?kB ?_ ?c2 ?c3 ?c4 ?c5; (case kA => exact rfl); (case kF => first | exact rfl | assumption); (case kK => first | exact rfl | assumption); (case k1 => k_asm); (case k2 => k_asm); (case k3 => k_asm); (case k4 => k_asm); (case k5 => k_asm); (case k6 => k_is); (case k7 => k_is); (case k8 => k_room); (case k9 => first | exact BindsTo.of_eq rfl | exact binds_K (by k_in) rfl (by k_is) rfl rfl rfl | fail "k_enter: no rule for these arguments"); (case c5 => decide); (case kB => exact locs rfl); (case c2 => exact rfl); (case c3 => exact rfl); (case c4 => exact rfl); k_whole; intro g' L' h' FG' F' N' B' X' T'; (try dsimp only); (try k_lift B'); (try k_fold))
  k_steps
  · (rename Fr _ _ _ _ => F₅); (rename News _ _ _ _ => N₅)
    refine heappop_N F₅ N₅ (by k_all) h39 ((List.pairwise_cons.mp hpw).2.imp Ne.symm) (fun x hx => .tail _ (.tail _ (.tail _ (.tail _ (.tail _ (hes x hx)))))) (by simp; omega) fun h1 F₆ N₆ => ?_
    clear F₅ N₅
    have hin : ∀ x ∈ ppp (e :: es), x ∈ es := fun x hx => ppp_mem h39 hx
    have hlen : (ppp (e :: es)).length ≤ 2 := ppp_len h39
    cases hp : ppp (e :: es) with
    | nil =>
      rw [hp] at N₆
      k_steps
      (rename Fr _ _ _ _ => F₅); (rename News _ _ _ _ => N₅); (rename (_ : Int) ≤ _ => hle)
      exact hQ2 hle hp _ _ _ F₅ N₅
    | cons e2 es2 =>
      rw [hp] at N₆ hin hlen
      have hm2 := hes e2 (hin e2 (.head _))
      have n10 : @Ne Nat e2.q dt := hoff _ hm2 dt (.tail _ (.head _))
      have n11 : @Ne Nat e2.q H := hoff _ hm2 H (.head _)
      have N₇ := News.append (fun p hp => by cases List.mem_singleton.mp hp; exact N₆ (e2.q, e2.obj) (.tail _ (.tail _ (.tail _ (.tail _ (.tail _ (.tail _ hm2)))))) : News _ _ _ [(e2.q, e2.obj)]) N₆
      simp only [List.cons_append, List.nil_append] at N₇
      clear N₆
      (rename (_ : Int) ≤ _ => hle)
      k_steps
      all_goals ((rename Fr _ _ _ _ => F₅); (rename News _ _ _ _ => N₅); (rename (Float64.cmpInt _ _ == _) = _ => hc); rw [cmp0] at hc; simp only [decide_eq_true_eq, decide_eq_false_iff_not] at hc)
      · exact hQ3 hle e2 es2 hp _ _ _ _ _ (.inl ⟨rfl, by omega⟩) F₅ (news_drop2 N₅)
      · exact hQ3 hle e2 es2 hp _ _ _ _ _ (.inr ⟨rfl, by omega⟩) F₅ (news_drop2 N₅)
  · (rename Fr _ _ _ _ => F₅); (rename News _ _ _ _ => N₅); (rename ¬ (_ : Int) ≤ _ => hgt)
    exact hQ1 (by omega) _ _ _ _ F₅ N₅
end Mine
end

section
open PySem PySem.W PyProof.Rows PySem.Calls
namespace Mine
local macro_rules | `(tactic| walk_at "idle line 0") => `(tactic| fail "idle")
local macro_rules | `(tactic| walk_at "idle line 1") => `(tactic| fail "idle")
def Stop (P : Prop) : Prop := P
theorem stop_of {P : Prop} (h : Stop P) : P := h
section
variable {prog : Program} {w : World} {A : Around} {E : Value → Shared → Prop} {s : Shared} {K : Frag} {x C L f : Addr} {h₀ : Heap} {m : Str → Option Value} {ox : Obj} {od : Option Obj}
theorem next_own {Q : Value → Shared → Prop} (F : Fr h₀ L s.heap m) (X₀ : K.In h₀) (I : InstAt s.heap x ox C od) (hs : findIn K (.ref C) "__next__" = some (some (.ref f))) (hf : isFn K (.ref f) = true)
    (h : wpAny (model prog w) A.in1 (call (.ref f) [.ref x]) Q E s) : wpAny (model prog w) A (call (.builtin "next") [.ref x]) Q E s := by
  have X := X₀.keeps F.keep
  refine call_function_entry (by decide +kernel) (by decide +kernel) kdk_entry_next (kdk_args_next _) ?_
  unfold Builtin.«next»
  refine wpAny_bind (m := someArgs "next" 1 2 _) (wpAny_of_eq (a := [Value.ref x]) (by first | rfl | kernel_rfl!) ?_)
  dsimp only
  refine wpAny_bind (wpAny_bind (I.type.here ((looks_findIn X hs).here ?_)))
  refine wpAny_ite_split (fun hab => absurd hab (by simp)) (fun _ => ?_)
  refine wpAny_bind (special_fn (name := "__next__") (args := []) X I hs (beq_iff_eq.mp hf) (wpAny_mono h (fun v s' hq => ?_) fun _ _ e => e))
  exact wpAny_pure ⟨_, rfl, hq⟩
end
local macro_rules | `(tactic| walk_at "call builtin:next") => `(tactic| (k_here; (with_reducible show wpAny _ _ (call (Value.builtin "next") [Value.ref _]) _ _ _); k_dflt (refine' next_own ?F ?X ?I ?hs ?hf ?_; (case F => k_asm); (case X => k_asm); (case I => k_inst); (case hs => k_is); (case hf => k_is); k_whole)))
local macro_rules | `(tactic| k_room) => `(tactic| ((try simp only [depth_mark, depth_under_make, depth_under_kw, depth_in1, depth_deeper, depth_caller, recursionLimit]); omega))
local macro_rules | `(tactic| k_units) => `(tactic| ((try simp only [cLine, units_in1, units_deeper, Around.mark_units, units_caller]); omega))
local macro_rules | `(tactic| walk_at "call ref") => `(tactic| (k_here; (with_reducible show wpAny _ _ (call (Value.ref 227) _) _ _ _); refine stop_of ?_))
/-- the counter -/
abbrev cntObj (dC : Addr) (cnt : Int) (tkc : Tok) (stp : Tok) : Obj := { cls := .ref 180, dict := some dC, data := .plain, slots := #[some (.int cnt tkc), some (.bool true), some (.int 1 stp)] }

set_option maxRecDepth 100000 in
set_option maxHeartbeats 8000000 in
theorem inst {w : World} {A₀ : Around} {env : Env} {outer : List Env} {d u : Nat} {gs : Option (List Code)} {base h₀ : Heap} {L : Addr} {s s₀ : Shared} {m mg mb : Str → Option Value}
  {Q : Value → Shared → Prop} {E : Value → Shared → Prop} {rest : List (Addr × Obj)} {M dM H C dC t dt : Addr} {es : List Ent} {nH : Nat} {hs1 hs2 hs3 hs4 hs5 hs6 : Int} {tk1 tk2 tk3 tk4 tk5 tk6 tk7 tkc stp tkW : Tok} {now W cnt : Int} {bt : Bool}
  (hd9 : d ≤ 315) (hu9 : u ≤ 280) (hf9 : env.frame = some L) (hk9 : env.scope.kind = .function)
  (B : Below A₀ base outer h₀) (X : (hd.heap_39 w.params).In h₀) (T : T18 s₀ mg mb h₀) (F : Fr h₀ L s.heap m)
  (n1 : @Ne Nat M H) (n2 : @Ne Nat dM H) (n3 : @Ne Nat t H) (n4 : @Ne Nat dt H) (n5 : @Ne Nat M dt) (n6 : @Ne Nat dM dt) (n7 : @Ne Nat t dt) (n8 : @Ne Nat C H) (n9 : @Ne Nat C dt) (n10 : @Ne Nat dC H) (n11 : @Ne Nat dC dt) (n12 : @Ne Nat M C) (n13 : @Ne Nat dM C) (n14 : @Ne Nat t C) (n15 : @Ne Nat dC C)
  (hoff : OwnOff rest [H, dt, C]) (hpw : es.Pairwise fun a b => a.c ≠ b.c)
  (hes : ∀ x ∈ es, (x.q, x.obj) ∈ rest) (hes3 : es.length ≤ 3) (hts : ∀ x ∈ es, ∃ dx, (x.t, instObj 123 dx) ∈ (t, instObj 123 dt) :: rest)
  (N : News h₀ L s.heap ((H, listOf (refs es) nH) :: (M, instObj 244 dM) :: (dM, dictOf [⟨hs1, .str (Str.ofString "tasks") tk1, .ref H⟩, ⟨hs2, .str (Str.ofString "now") tk2, .int now tk3⟩, ⟨hs3, .str (Str.ofString "counter") tk4, .ref C⟩] 3)
     :: (t, instObj 123 dt) :: (dt, dictOf [⟨hs4, .str (Str.ofString "taskTime") tk5, .int W tkW⟩, ⟨hs5, .str (Str.ofString "isScheduled") tk6, .bool bt⟩, ⟨hs6, .str (Str.ofString "taskManager") tk7, .ref M⟩] 3) :: (C, cntObj dC cnt tkc stp) :: (dC, dictOf [] 0) :: rest))
  (hcnt : ∀ x ∈ es, x.c < cnt) (hb0 : bt = false → es.length ≤ 2) (hb1 : bt = true → ∃ x ∈ es, x.t = t)
  (hQ : ∀ q es1 nH' h' tk' tkc', q.w = W → q.c = cnt → q.t = t → (bt = false ∧ es1 = es ∨ bt = true ∧ ∃ i x, es[i]? = some x ∧ x.t = t ∧ (∀ j y, j < i → es[j]? = some y → y.t ≠ t) ∧ es1 = hpf (es.eraseIdx i)) → Fr h₀ L h' m →
    News h₀ L h' ((H, listOf (refs (psh es1 q)) nH') :: (q.q, q.obj) :: (M, instObj 244 dM) :: (dM, dictOf [⟨hs1, .str (Str.ofString "tasks") tk1, .ref H⟩, ⟨hs2, .str (Str.ofString "now") tk2, .int now tk3⟩, ⟨hs3, .str (Str.ofString "counter") tk4, .ref C⟩] 3) :: (t, instObj 123 dt) :: (dt, dictOf [⟨hs4, .str (Str.ofString "taskTime") tk5, .int W tkW⟩, ⟨hs5, .str (Str.ofString "isScheduled") tk6, .bool true⟩, ⟨hs6, .str (Str.ofString "taskManager") tk7, .ref M⟩] 3) :: (C, cntObj dC (cnt + 1) tkc' stp) :: (dC, dictOf [] 0) :: rest) → Q .none { s with heap := h', toks := tk' })
  : wpAny (model Challenge.rw_fe0018_01.row.prog w) ⟨none, d, some (env :: outer), gs, u⟩ (call (.ref 220) [.ref M, .ref t]) Q E s := by
  revert X; k_fill; intro X
  try k_fold
  refine wpAny_call ?_
  (refine' code_def ?k1 ?k2 ?k3 ?k4 ?k5 ?kA ?kF ?kK ?k6 ?k7 ?k8 ?k9 ?kB ?_ ?c2 ?c3 ?c4 ?c5; (case kA => exact rfl); (case kF => first | exact rfl | assumption); (case kK => first | exact rfl | assumption); (case k1 => k_asm); (case k2 => k_asm); (case k3 => k_asm); (case k4 => k_asm); (case k5 => k_asm); (case k6 => k_is); (case k7 => k_is); (case k8 => k_room); (case k9 => first | exact BindsTo.of_eq rfl | exact binds_K (by k_in) rfl (by k_is) rfl rfl rfl | fail "k_enter: no rule for these arguments"); (case c5 => decide); (case kB => exact locs rfl); (case c2 => exact rfl); (case c3 => exact rfl); (case c4 => exact rfl); k_whole; intro g' L' h' FG' F' N' B' X' T'; (try dsimp only); (try k_lift B'); (try k_fold))
  cases bt
  · k_steps
    (rename Fr _ _ _ _ => F₅); (rename News _ _ _ _ => N₅)
    refine heappush_N (q := ⟨_, _, _, _, _, _⟩) F₅ (news_swap N₅) (by k_all) (hb0 rfl) (fun e he => ?_) (fun x hx => ?_) (.head _) (by simp; omega) fun h1 F₆ N₆ => ?_
    · have := hcnt e he; dsimp only; omega
    · exact .tail _ (.tail _ (.tail _ (.tail _ (.tail _ (.tail _ (.tail _ (hes x hx)))))))
    clear F₅ N₅
    k_steps
    (rename Fr _ _ _ _ => F₇); (rename News _ _ _ _ => N₇)
    exact hQ _ es _ _ _ _ rfl rfl rfl (.inl ⟨rfl, rfl⟩) F₇ N₇
  · k_steps
    unfold Stop
    have hoff1 : OwnOff ((C, cntObj dC cnt tkc stp) :: (dC, dictOf [] 0) :: rest) [H, dt] := fun p hp b hb => by
      rcases List.mem_cons.mp hp with rfl | hp
      · rcases List.mem_cons.mp hb with rfl | hb
        · exact n8
        · rcases List.mem_cons.mp hb with rfl | hb
          · exact n9
          · cases hb
      · rcases List.mem_cons.mp hp with rfl | hp
        · rcases List.mem_cons.mp hb with rfl | hb
          · exact n10
          · rcases List.mem_cons.mp hb with rfl | hb
            · exact n11
            · cases hb
        · exact hoff p hp b (by
            rcases List.mem_cons.mp hb with rfl | hb
            · exact .head _
            · rcases List.mem_cons.mp hb with rfl | hb
              · exact .tail _ (.head _)
              · cases hb)
    refine susp (rest := (C, cntObj dC cnt tkc stp) :: (dC, dictOf [] 0) :: rest) (by simp only [depth_deeper]; omega) (by simp only [Around.deeper_units]; omega) rfl rfl B' X' T' F' n1 n2 n3 n4 n5 n6 n7 hoff1 hpw (fun x hx => .tail _ (.tail _ (hes x hx))) hes3 (fun x hx => ?_) N' ?_ ?_
    · obtain ⟨dx, h⟩ := hts x hx
      rcases List.mem_cons.mp h with h | h
      · exact ⟨dx, h ▸ .head _⟩
      · exact ⟨dx, .tail _ (.tail _ (.tail _ h))⟩
    · intro hno
      obtain ⟨x, hx, hxt⟩ := hb1 rfl
      exact absurd hxt (hno x hx)
    · intro i x hx hxt hbef h1 tk1 F₅ N₅
      have hi : i < es.length := (List.getElem?_eq_some_iff.mp hx).1
      have hlen : (hpf (es.eraseIdx i)).length ≤ 2 := by rw [hpf_len, List.length_eraseIdx, if_pos hi]; omega
      have hmem : ∀ y ∈ hpf (es.eraseIdx i), y ∈ es := fun y hy => List.mem_of_mem_eraseIdx ((hpf_perm _).mem_iff.mp hy)
      have hes1 : ∀ y ∈ hpf (es.eraseIdx i), (y.q, y.obj) ∈ rest := fun y hy => hes y (hmem y hy)
      have hcnt1 : ∀ y ∈ hpf (es.eraseIdx i), y.c < cnt := fun y hy => hcnt y (hmem y hy)
      generalize hE : hpf (es.eraseIdx i) = es1 at N₅ hlen hmem hes1 hcnt1
      clear N' F' F
      k_steps
      (rename Fr _ _ _ _ => F₆); (rename News _ _ _ _ => N₆)
      refine heappush_N (q := ⟨_, _, _, _, _, _⟩) F₆ (news_swap N₆) (by k_all) hlen (fun e he => ?_) (fun x hx => ?_) (.head _) (by simp; omega) fun h1 F₇ N₇ => ?_
      · have := hcnt1 e he; dsimp only; omega
      · exact .tail _ (.tail _ (.tail _ (.tail _ (.tail _ (.tail _ (.tail _ (hes1 x hx)))))))
      clear F₆ N₆
      k_steps
      (rename Fr _ _ _ _ => F₈); (rename News _ _ _ _ => N₈)
      exact hQ _ es1 _ _ _ _ rfl rfl rfl (.inr ⟨rfl, i, x, hx, hxt, hbef, hE.symm⟩) F₈ N₈
end Mine
end

section
open PySem PySem.W PyProof.Rows PySem.Calls
namespace Mine
local macro_rules | `(tactic| k_room) => `(tactic| ((try simp only [depth_mark, depth_under_make, depth_under_kw, depth_in1, depth_deeper, depth_caller, recursionLimit]); omega))
local macro_rules | `(tactic| k_units) => `(tactic| ((try simp only [cLine, units_in1, units_deeper, Around.mark_units, units_caller]); omega))
local macro_rules | `(tactic| walk_at "call ref") => `(tactic| (k_here; (with_reducible show wpAny _ _ (call (Value.ref 220) _) _ _ _); refine stop_of ?_))

section
variable {prog : Program} {w : World} {A₀ A : Around} {s : Shared} {base h₀ : Heap} {env : Env} {L : Addr} {m : Str → Option Value} {news : List (Addr × Obj)} {K : Frag} {p : Program} {loose : List Str} {mean : ExcName → Option Value} {mg mb : Str → Option Value}
    {R : Result → Shared → Prop} {name qual : Str} {params : Arguments} {body : List Stmt} {scope : Scope} {dV kV doc pm cdv ct oc : Value} {an od : Option Addr} {osl : Array (Option Value)} {f : Addr} {args : Args} {binds : List (Str × Value)}
/-- a def that catches, called from a frame that may bear cells -/
theorem call_catcher (B : Below A₀ base [] h₀) (F : Fr h₀ L s.heap m) (X₀ : K.In h₀) (N : News h₀ L s.heap news) (T : Top p loose mean mg mb h₀) (hA : A.frames = some [env]) (hf : env.frame = some L) (hke : env.scope.kind = .function)
    (ho : K.lookup f = some ⟨oc, od, .func (fnOf name qual params body scope dV kV doc pm an cdv ct), osl⟩) (hcd : codeIn K cdv qual = true) (hroom : A.depth < recursionLimit)
    (hbind : BindsTo s (fnOf name qual params body scope dV kV doc pm an cdv ct) args binds) (hloc : ∀ y ∈ binds, scope.names.lookup y.1 = some .local)
    (h : ∀ g L' h₁, Fr h₀ L g m → Fr g L' h₁ (fun y => binds.reverse.lookup y) → News g L' h₁ news → Below A base [env] g → K.In g → Top p loose mean mg mb g → KtsDicts ([env].filterMap (·.frame)) g →
      wpAny (model prog w) (A.deeper (envOf qual scope L' f cdv)) (execs body (envOf qual scope L' f cdv))
        (fun fl s' => LeaveS0 ([env].filterMap (·.frame)) h₀ L m g R (match fl with | .ret v => v | _ => .none) s')
        (fun e s' => wpAny (model prog w) (A.deeper (envOf qual scope L' f cdv)) (leaving (envOf qual scope L' f cdv) e) (fun _ s'' => R (.error e) s'') (fun e' s'' => R (.error e') s'') s')
        { s with heap := h₁, toks := s.toks + binds.length })
    (hco : scope.isCoroutine = false) (hgen : scope.isGenerator = false) (hk : scope.kind = .function)
    (hcell : ∀ x ∈ scope.names, x.2 ≠ .cell) : codeAny (model prog w) A (.call (.ref f) args) R s := by
  have X := X₀.keeps F.keep
  have hfr : ∀ b, b ∈ [env].filterMap (·.frame) ↔ b = L := fun b => by
    simp only [List.filterMap_cons, hf, List.filterMap_nil, List.mem_singleton]
  obtain ⟨FG, BG, st, _⟩ := groundX (R := R) B F N hA hf hke
  refine codeAny_call_def (fd := fnOf name qual params body scope dV kV doc pm an cdv ct) (body := body) (binds := binds) hroom (X _ _ ho) rfl (T.nolimit.keeps F.keep) (codeRec_of X hcd) rfl hbind hcell hloc (fun h₁ hns hk₁ => ?_) hco hgen hk
  obtain ⟨oL, es, ep, hLg, hLd, hLk, hLf⟩ := FG.ns
  have hall : News (hideAll s.heap (news.map (·.1))) s.heap.objs.size h₁ news := fun q hq => ⟨hk₁ _ _ (N q hq).1, Nat.ne_of_lt (Heap.lt_size (N q hq).1), hideAll_none _ (List.mem_map_of_mem hq)⟩
  have hFr : Fr (hideAll s.heap (news.map (·.1))) s.heap.objs.size h₁ (fun y => binds.reverse.lookup y) := ⟨hns, fun b o e => hk₁ b o (of_hideAll _ e), Nat.le_of_eq (hideAll_size _ _)⟩
  refine wpAny_mono (h _ s.heap.objs.size h₁ FG hFr hall BG (X₀.keeps st) (T.keeps st) (fun b hb => by rw [(hfr b).mp hb]; exact ⟨oL, es, ep, hLg, hLd⟩)) (fun fl s' hl => ?_) fun _ _ y => y
  obtain ⟨g', L', m', news', T', F', N', k⟩ := hl
  have nL₀ : h₀.get? L = none := kts_self F
  obtain ⟨sl, hsl⟩ := T'.up hLg
  have keepNone : ∀ q ∈ news', h₀.get? q.1 = none := fun q hq => by
    cases e : h₀.get? q.1 with
    | none => rfl
    | some o =>
      obtain ⟨sl', hs'⟩ := T'.up (st _ _ e)
      have := (N' q hq).2.2
      rw [hs'] at this
      cases this
  have keepOld : ∀ b o, h₀.get? b = some o → s'.heap.get? b = some o := fun b o e => F'.keep b o (T'.other b o (st b o e) fun q => by
    rw [(hfr b).mp q, nL₀] at e
    cases e)
  refine k ⟨⟨_, es, ep, F'.keep _ _ hsl, hLd, hLk, hLf⟩, keepOld, F.above⟩ fun q hq => ⟨(N' q hq).1, fun e => ?_, keepNone q hq⟩
  have := (N' q hq).2.2
  rw [e, hsl] at this
  cases this
end
set_option maxRecDepth 100000 in
set_option maxHeartbeats 8000000 in
theorem linst0 {w : World} {A₀ : Around} {env : Env} {outer : List Env} {d u : Nat} {gs : Option (List Code)} {base h₀ : Heap} {L : Addr} {s s₀ : Shared} {m mg mb : Str → Option Value}
  {Q : Value → Shared → Prop} {E : Value → Shared → Prop} {rest : List (Addr × Obj)} {M dM H C dC t dt : Addr} {es : List Ent} {nH : Nat} {hs1 hs2 hs3 hs4 hs5 hs6 : Int} {tk1 tk2 tk3 tk4 tk5 tk6 tk7 tkc stp tkv : Tok} {now x cnt W : Int} {tkh tkx : Tok} {bt : Bool} {vt : Value}
  (hd9 : d ≤ 310) (hu9 : u ≤ 260) (hf9 : env.frame = some L) (hk9 : env.scope.kind = .function)
  (B : Below A₀ base outer h₀) (X : (hd.heap_39 w.params).In h₀) (T : T18 s₀ mg mb h₀) (F : Fr h₀ L s.heap m)
  (n1 : @Ne Nat M H) (n2 : @Ne Nat dM H) (n3 : @Ne Nat t H) (n4 : @Ne Nat dt H) (n5 : @Ne Nat M dt) (n6 : @Ne Nat dM dt) (n7 : @Ne Nat t dt) (n8 : @Ne Nat C H) (n9 : @Ne Nat C dt) (n10 : @Ne Nat dC H) (n11 : @Ne Nat dC dt) (n12 : @Ne Nat M C) (n13 : @Ne Nat dM C) (n14 : @Ne Nat t C) (n15 : @Ne Nat dC C)
  (hoff : OwnOff rest [H, dt, C]) (hpw : es.Pairwise fun a b => a.c ≠ b.c)
  (hes : ∀ x ∈ es, (x.q, x.obj) ∈ rest) (hes3 : es.length ≤ 3) (hts : ∀ x ∈ es, ∃ dx, (x.t, instObj 123 dx) ∈ (t, instObj 123 dt) :: rest)
  (hcnt : ∀ x ∈ es, x.c < cnt) (hb0 : bt = false → es.length ≤ 2) (hb1 : bt = true → ∃ x ∈ es, x.t = t)
  (N : News h₀ L s.heap ((H, listOf (refs es) nH) :: (M, instObj 244 dM) :: (dM, dictOf [⟨hs1, .str (Str.ofString "tasks") tk1, .ref H⟩, ⟨hs2, .str (Str.ofString "now") tk2, .int now tk3⟩, ⟨hs3, .str (Str.ofString "counter") tk4, .ref C⟩] 3) :: (t, instObj 123 dt) :: (dt, dictOf [⟨hs4, .str (Str.ofString "taskTime") tk5, vt⟩, ⟨hs5, .str (Str.ofString "isScheduled") tk6, .bool bt⟩, ⟨hs6, .str (Str.ofString "taskManager") tk7, .ref M⟩] 3) :: (C, cntObj dC cnt tkc stp) :: (dC, dictOf [] 0) :: rest))
  (hQ : ∀ q es1 nH' h' tk' tkc' tkW, q.w = x → q.c = cnt → q.t = t → (bt = false ∧ es1 = es ∨ bt = true ∧ ∃ i x, es[i]? = some x ∧ x.t = t ∧ (∀ j y, j < i → es[j]? = some y → y.t ≠ t) ∧ es1 = hpf (es.eraseIdx i)) → Fr h₀ L h' m →
    News h₀ L h' ((H, listOf (refs (psh es1 q)) nH') :: (q.q, q.obj) :: (M, instObj 244 dM) :: (dM, dictOf [⟨hs1, .str (Str.ofString "tasks") tk1, .ref H⟩, ⟨hs2, .str (Str.ofString "now") tk2, .int now tk3⟩, ⟨hs3, .str (Str.ofString "counter") tk4, .ref C⟩] 3) :: (t, instObj 123 dt) :: (dt, dictOf [⟨hs4, .str (Str.ofString "taskTime") tk5, .int (x) tkW⟩, ⟨hs5, .str (Str.ofString "isScheduled") tk6, .bool true⟩, ⟨hs6, .str (Str.ofString "taskManager") tk7, .ref M⟩] 3) :: (C, cntObj dC (cnt + 1) tkc' stp) :: (dC, dictOf [] 0) :: rest) → Q (.bool true) { s with heap := h', toks := tk' })
  : wpAny (model Challenge.rw_fe0018_01.row.prog w) ⟨none, d, some (env :: outer), gs, u⟩ (call (.ref 255) [.ref t, .int 0 tkh, .int x tkx]) Q E s := by
  revert X; k_fill; intro X
  try k_fold
  refine wpAny_call ?_
  (refine' code_def ?k1 ?k2 ?k3 ?k4 ?k5 ?kA ?kF ?kK ?k6 ?k7 ?k8 ?k9 ?kB ?_ ?c2 ?c3 ?c4 ?c5; (case kA => exact rfl); (case kF => first | exact rfl | assumption); (case kK => first | exact rfl | assumption); (case k1 => k_asm); (case k2 => k_asm); (case k3 => k_asm); (case k4 => k_asm); (case k5 => k_asm); (case k6 => k_is); (case k7 => k_is); (case k8 => k_room); (case k9 => first | exact BindsTo.of_eq rfl | exact binds_K (by k_in) rfl (by k_is) rfl rfl rfl | fail "k_enter: no rule for these arguments"); (case c5 => decide); (case kB => exact locs rfl); (case c2 => exact rfl); (case c3 => exact rfl); (case c4 => exact rfl); k_whole; intro g' L' h' FG' F' N' B' X' T'; (try dsimp only); (try k_lift B'); (try k_fold))
  k_steps
  unfold Stop
  (rename Fr _ _ _ _ => F5); (rename News _ _ _ _ => N5)
  refine inst (by simp only [depth_deeper]; omega) (by simp only [Around.deeper_units]; omega) rfl rfl (by assumption) (by assumption) (by assumption) F5 n1 n2 n3 n4 n5 n6 n7 n8 n9 n10 n11 n12 n13 n14 n15 hoff hpw hes hes3 hts N5 hcnt hb0 hb1 fun q es1 nH1 h1 tk1 tkc1 hw hc ht hE F6 N6 => ?_
  clear N5 F5
  k_steps
  (rename Fr _ _ _ _ => F7); (rename News _ _ _ _ => N7)
  exact hQ q es1 _ _ _ _ _ hw hc ht hE F7 N7
set_option maxRecDepth 100000 in
set_option maxHeartbeats 8000000 in
theorem linst1 {w : World} {A₀ : Around} {env : Env} {outer : List Env} {d u : Nat} {gs : Option (List Code)} {base h₀ : Heap} {L : Addr} {s s₀ : Shared} {m mg mb : Str → Option Value}
  {Q : Value → Shared → Prop} {E : Value → Shared → Prop} {rest : List (Addr × Obj)} {M dM H C dC t dt : Addr} {es : List Ent} {nH : Nat} {hs1 hs2 hs3 hs4 hs5 hs6 : Int} {tk1 tk2 tk3 tk4 tk5 tk6 tk7 tkc stp tkv : Tok} {now x cnt W : Int} {tkh tkx : Tok} {bt : Bool} {vt : Value}
  (hd9 : d ≤ 310) (hu9 : u ≤ 260) (hf9 : env.frame = some L) (hk9 : env.scope.kind = .function)
  (B : Below A₀ base outer h₀) (X : (hd.heap_39 w.params).In h₀) (T : T18 s₀ mg mb h₀) (F : Fr h₀ L s.heap m)
  (n1 : @Ne Nat M H) (n2 : @Ne Nat dM H) (n3 : @Ne Nat t H) (n4 : @Ne Nat dt H) (n5 : @Ne Nat M dt) (n6 : @Ne Nat dM dt) (n7 : @Ne Nat t dt) (n8 : @Ne Nat C H) (n9 : @Ne Nat C dt) (n10 : @Ne Nat dC H) (n11 : @Ne Nat dC dt) (n12 : @Ne Nat M C) (n13 : @Ne Nat dM C) (n14 : @Ne Nat t C) (n15 : @Ne Nat dC C)
  (hoff : OwnOff rest [H, dt, C]) (hpw : es.Pairwise fun a b => a.c ≠ b.c)
  (hes : ∀ x ∈ es, (x.q, x.obj) ∈ rest) (hes3 : es.length ≤ 3) (hts : ∀ x ∈ es, ∃ dx, (x.t, instObj 123 dx) ∈ (t, instObj 123 dt) :: rest)
  (hcnt : ∀ x ∈ es, x.c < cnt) (hb0 : bt = false → es.length ≤ 2) (hb1 : bt = true → ∃ x ∈ es, x.t = t)
  (N : News h₀ L s.heap ((H, listOf (refs es) nH) :: (M, instObj 244 dM) :: (dM, dictOf [⟨hs1, .str (Str.ofString "tasks") tk1, .ref H⟩, ⟨hs2, .str (Str.ofString "now") tk2, .int now tk3⟩, ⟨hs3, .str (Str.ofString "counter") tk4, .ref C⟩] 3) :: (t, instObj 123 dt) :: (dt, dictOf [⟨hs4, .str (Str.ofString "taskTime") tk5, vt⟩, ⟨hs5, .str (Str.ofString "isScheduled") tk6, .bool bt⟩, ⟨hs6, .str (Str.ofString "taskManager") tk7, .ref M⟩] 3) :: (C, cntObj dC cnt tkc stp) :: (dC, dictOf [] 0) :: rest))
  (hQ : ∀ q es1 nH' h' tk' tkc' tkW, q.w = now + x → q.c = cnt → q.t = t → (bt = false ∧ es1 = es ∨ bt = true ∧ ∃ i x, es[i]? = some x ∧ x.t = t ∧ (∀ j y, j < i → es[j]? = some y → y.t ≠ t) ∧ es1 = hpf (es.eraseIdx i)) → Fr h₀ L h' m →
    News h₀ L h' ((H, listOf (refs (psh es1 q)) nH') :: (q.q, q.obj) :: (M, instObj 244 dM) :: (dM, dictOf [⟨hs1, .str (Str.ofString "tasks") tk1, .ref H⟩, ⟨hs2, .str (Str.ofString "now") tk2, .int now tk3⟩, ⟨hs3, .str (Str.ofString "counter") tk4, .ref C⟩] 3) :: (t, instObj 123 dt) :: (dt, dictOf [⟨hs4, .str (Str.ofString "taskTime") tk5, .int (now + x) tkW⟩, ⟨hs5, .str (Str.ofString "isScheduled") tk6, .bool true⟩, ⟨hs6, .str (Str.ofString "taskManager") tk7, .ref M⟩] 3) :: (C, cntObj dC (cnt + 1) tkc' stp) :: (dC, dictOf [] 0) :: rest) → Q (.bool true) { s with heap := h', toks := tk' })
  : wpAny (model Challenge.rw_fe0018_01.row.prog w) ⟨none, d, some (env :: outer), gs, u⟩ (call (.ref 255) [.ref t, .int 1 tkh, .int x tkx]) Q E s := by
  revert X; k_fill; intro X
  try k_fold
  refine wpAny_call ?_
  (refine' code_def ?k1 ?k2 ?k3 ?k4 ?k5 ?kA ?kF ?kK ?k6 ?k7 ?k8 ?k9 ?kB ?_ ?c2 ?c3 ?c4 ?c5; (case kA => exact rfl); (case kF => first | exact rfl | assumption); (case kK => first | exact rfl | assumption); (case k1 => k_asm); (case k2 => k_asm); (case k3 => k_asm); (case k4 => k_asm); (case k5 => k_asm); (case k6 => k_is); (case k7 => k_is); (case k8 => k_room); (case k9 => first | exact BindsTo.of_eq rfl | exact binds_K (by k_in) rfl (by k_is) rfl rfl rfl | fail "k_enter: no rule for these arguments"); (case c5 => decide); (case kB => exact locs rfl); (case c2 => exact rfl); (case c3 => exact rfl); (case c4 => exact rfl); k_whole; intro g' L' h' FG' F' N' B' X' T'; (try dsimp only); (try k_lift B'); (try k_fold))
  k_steps
  unfold Stop
  (rename Fr _ _ _ _ => F5); (rename News _ _ _ _ => N5)
  refine inst (by simp only [depth_deeper]; omega) (by simp only [Around.deeper_units]; omega) rfl rfl (by assumption) (by assumption) (by assumption) F5 n1 n2 n3 n4 n5 n6 n7 n8 n9 n10 n11 n12 n13 n14 n15 hoff hpw hes hes3 hts N5 hcnt hb0 hb1 fun q es1 nH1 h1 tk1 tkc1 hw hc ht hE F6 N6 => ?_
  clear N5 F5
  k_steps
  (rename Fr _ _ _ _ => F7); (rename News _ _ _ _ => N7)
  exact hQ q es1 _ _ _ _ _ hw hc ht hE F7 N7
set_option maxRecDepth 100000 in
set_option maxHeartbeats 8000000 in
theorem linst2 {w : World} {A₀ : Around} {env : Env} {outer : List Env} {d u : Nat} {gs : Option (List Code)} {base h₀ : Heap} {L : Addr} {s s₀ : Shared} {m mg mb : Str → Option Value}
  {Q : Value → Shared → Prop} {E : Value → Shared → Prop} {rest : List (Addr × Obj)} {M dM H C dC t dt : Addr} {es : List Ent} {nH : Nat} {hs1 hs2 hs3 hs4 hs5 hs6 : Int} {tk1 tk2 tk3 tk4 tk5 tk6 tk7 tkc stp tkv : Tok} {now x cnt W : Int} {tkh tkx : Tok} {bt : Bool} {vt : Value}
  (hd9 : d ≤ 310) (hu9 : u ≤ 260) (hf9 : env.frame = some L) (hk9 : env.scope.kind = .function)
  (B : Below A₀ base outer h₀) (X : (hd.heap_39 w.params).In h₀) (T : T18 s₀ mg mb h₀) (F : Fr h₀ L s.heap m)
  (n1 : @Ne Nat M H) (n2 : @Ne Nat dM H) (n3 : @Ne Nat t H) (n4 : @Ne Nat dt H) (n5 : @Ne Nat M dt) (n6 : @Ne Nat dM dt) (n7 : @Ne Nat t dt) (n8 : @Ne Nat C H) (n9 : @Ne Nat C dt) (n10 : @Ne Nat dC H) (n11 : @Ne Nat dC dt) (n12 : @Ne Nat M C) (n13 : @Ne Nat dM C) (n14 : @Ne Nat t C) (n15 : @Ne Nat dC C)
  (hoff : OwnOff rest [H, dt, C]) (hpw : es.Pairwise fun a b => a.c ≠ b.c)
  (hes : ∀ x ∈ es, (x.q, x.obj) ∈ rest) (hes3 : es.length ≤ 3) (hts : ∀ x ∈ es, ∃ dx, (x.t, instObj 123 dx) ∈ (t, instObj 123 dt) :: rest)
  (hcnt : ∀ x ∈ es, x.c < cnt) (hb0 : bt = false → es.length ≤ 2) (hb1 : bt = true → ∃ x ∈ es, x.t = t)
  (N : News h₀ L s.heap ((H, listOf (refs es) nH) :: (M, instObj 244 dM) :: (dM, dictOf [⟨hs1, .str (Str.ofString "tasks") tk1, .ref H⟩, ⟨hs2, .str (Str.ofString "now") tk2, .int now tk3⟩, ⟨hs3, .str (Str.ofString "counter") tk4, .ref C⟩] 3) :: (t, instObj 123 dt) :: (dt, dictOf [⟨hs4, .str (Str.ofString "taskTime") tk5, .int W tkv⟩, ⟨hs5, .str (Str.ofString "isScheduled") tk6, .bool bt⟩, ⟨hs6, .str (Str.ofString "taskManager") tk7, .ref M⟩] 3) :: (C, cntObj dC cnt tkc stp) :: (dC, dictOf [] 0) :: rest))
  (hQ : ∀ q es1 nH' h' tk' tkc' tkW, q.w = W → q.c = cnt → q.t = t → (bt = false ∧ es1 = es ∨ bt = true ∧ ∃ i x, es[i]? = some x ∧ x.t = t ∧ (∀ j y, j < i → es[j]? = some y → y.t ≠ t) ∧ es1 = hpf (es.eraseIdx i)) → Fr h₀ L h' m →
    News h₀ L h' ((H, listOf (refs (psh es1 q)) nH') :: (q.q, q.obj) :: (M, instObj 244 dM) :: (dM, dictOf [⟨hs1, .str (Str.ofString "tasks") tk1, .ref H⟩, ⟨hs2, .str (Str.ofString "now") tk2, .int now tk3⟩, ⟨hs3, .str (Str.ofString "counter") tk4, .ref C⟩] 3) :: (t, instObj 123 dt) :: (dt, dictOf [⟨hs4, .str (Str.ofString "taskTime") tk5, .int (W) tkW⟩, ⟨hs5, .str (Str.ofString "isScheduled") tk6, .bool true⟩, ⟨hs6, .str (Str.ofString "taskManager") tk7, .ref M⟩] 3) :: (C, cntObj dC (cnt + 1) tkc' stp) :: (dC, dictOf [] 0) :: rest) → Q (.bool true) { s with heap := h', toks := tk' })
  : wpAny (model Challenge.rw_fe0018_01.row.prog w) ⟨none, d, some (env :: outer), gs, u⟩ (call (.ref 255) [.ref t, .int 2 tkh, .int x tkx]) Q E s := by
  revert X; k_fill; intro X
  try k_fold
  refine wpAny_call ?_
  (refine' code_def ?k1 ?k2 ?k3 ?k4 ?k5 ?kA ?kF ?kK ?k6 ?k7 ?k8 ?k9 ?kB ?_ ?c2 ?c3 ?c4 ?c5; (case kA => exact rfl); (case kF => first | exact rfl | assumption); (case kK => first | exact rfl | assumption); (case k1 => k_asm); (case k2 => k_asm); (case k3 => k_asm); (case k4 => k_asm); (case k5 => k_asm); (case k6 => k_is); (case k7 => k_is); (case k8 => k_room); (case k9 => first | exact BindsTo.of_eq rfl | exact binds_K (by k_in) rfl (by k_is) rfl rfl rfl | fail "k_enter: no rule for these arguments"); (case c5 => decide); (case kB => exact locs rfl); (case c2 => exact rfl); (case c3 => exact rfl); (case c4 => exact rfl); k_whole; intro g' L' h' FG' F' N' B' X' T'; (try dsimp only); (try k_lift B'); (try k_fold))
  k_steps
  unfold Stop
  (rename Fr _ _ _ _ => F5); (rename News _ _ _ _ => N5)
  refine inst (by simp only [depth_deeper]; omega) (by simp only [Around.deeper_units]; omega) rfl rfl (by assumption) (by assumption) (by assumption) F5 n1 n2 n3 n4 n5 n6 n7 n8 n9 n10 n11 n12 n13 n14 n15 hoff hpw hes hes3 hts N5 hcnt hb0 hb1 fun q es1 nH1 h1 tk1 tkc1 hw hc ht hE F6 N6 => ?_
  clear N5 F5
  k_steps
  (rename Fr _ _ _ _ => F7); (rename News _ _ _ _ => N7)
  exact hQ q es1 _ _ _ _ _ hw hc ht hE F7 N7
set_option maxRecDepth 100000 in
set_option maxHeartbeats 8000000 in
theorem linstN {w : World} {A₀ : Around} {env : Env} {d u : Nat} {gs : Option (List Code)} {h₀ : Heap} {L : Addr} {s s₀ : Shared} {m mg mb : Str → Option Value}
  {Q : Value → Shared → Prop} {E : Value → Shared → Prop} {rest : List (Addr × Obj)} {M dM H C dC t dt : Addr} {es : List Ent} {nH : Nat} {hs1 hs2 hs3 hs4 hs5 hs6 : Int} {tk1 tk2 tk3 tk4 tk5 tk6 tk7 tkc stp tkv : Tok} {now x cnt W : Int} {tkh tkx : Tok} {bt : Bool} {vt : Value}
  (hd9 : d ≤ 310) (hu9 : u ≤ 260) (hf9 : env.frame = some L) (hk9 : env.scope.kind = .function)
  (B : Below A₀ h₀ [] h₀) (X : (hd.heap_39 w.params).In h₀) (T : T18 s₀ mg mb h₀) (F : Fr h₀ L s.heap m)
  (n1 : @Ne Nat M H) (n2 : @Ne Nat dM H) (n3 : @Ne Nat t H) (n4 : @Ne Nat dt H) (n5 : @Ne Nat M dt) (n6 : @Ne Nat dM dt) (n7 : @Ne Nat t dt) (n8 : @Ne Nat C H) (n9 : @Ne Nat C dt) (n10 : @Ne Nat dC H) (n11 : @Ne Nat dC dt) (n12 : @Ne Nat M C) (n13 : @Ne Nat dM C) (n14 : @Ne Nat t C) (n15 : @Ne Nat dC C)
  (hoff : OwnOff rest [H, dt, C]) (hpw : es.Pairwise fun a b => a.c ≠ b.c)
  (hes : ∀ x ∈ es, (x.q, x.obj) ∈ rest) (hes3 : es.length ≤ 3) (hts : ∀ x ∈ es, ∃ dx, (x.t, instObj 123 dx) ∈ (t, instObj 123 dt) :: rest)
  (hcnt : ∀ x ∈ es, x.c < cnt) (hb0 : bt = false → es.length ≤ 2) (hb1 : bt = true → ∃ x ∈ es, x.t = t)
  (N : News h₀ L s.heap ((H, listOf (refs es) nH) :: (M, instObj 244 dM) :: (dM, dictOf [⟨hs1, .str (Str.ofString "tasks") tk1, .ref H⟩, ⟨hs2, .str (Str.ofString "now") tk2, .int now tk3⟩, ⟨hs3, .str (Str.ofString "counter") tk4, .ref C⟩] 3) :: (t, instObj 123 dt) :: (dt, dictOf [⟨hs4, .str (Str.ofString "taskTime") tk5, .none⟩, ⟨hs5, .str (Str.ofString "isScheduled") tk6, .bool bt⟩, ⟨hs6, .str (Str.ofString "taskManager") tk7, .ref M⟩] 3) :: (C, cntObj dC cnt tkc stp) :: (dC, dictOf [] 0) :: rest))
  (hQ : ∀ h' tk', Fr h₀ L h' m → News h₀ L h' ((H, listOf (refs es) nH) :: (M, instObj 244 dM) :: (dM, dictOf [⟨hs1, .str (Str.ofString "tasks") tk1, .ref H⟩, ⟨hs2, .str (Str.ofString "now") tk2, .int now tk3⟩, ⟨hs3, .str (Str.ofString "counter") tk4, .ref C⟩] 3) :: (t, instObj 123 dt) :: (dt, dictOf [⟨hs4, .str (Str.ofString "taskTime") tk5, .none⟩, ⟨hs5, .str (Str.ofString "isScheduled") tk6, .bool bt⟩, ⟨hs6, .str (Str.ofString "taskManager") tk7, .ref M⟩] 3) :: (C, cntObj dC cnt tkc stp) :: (dC, dictOf [] 0) :: rest) → Q (.bool false) { s with heap := h', toks := tk' })
  : wpAny (model Challenge.rw_fe0018_01.row.prog w) ⟨none, d, some [env], gs, u⟩ (call (.ref 255) [.ref t, .int 2 tkh, .int x tkx]) Q E s := by
  revert X; k_fill; intro X
  try k_fold
  refine wpAny_call ?_
  (refine' call_catcher ?k1 ?k2 ?k3 ?k4 ?k5 ?kA ?kF ?kK ?k6 ?k7 ?k8 ?k9 ?kB ?_ ?c2 ?c3 ?c4 ?c5; (case kA => exact rfl); (case kF => first | exact rfl | assumption); (case kK => first | exact rfl | assumption); (case k1 => k_asm); (case k2 => k_asm); (case k3 => k_asm); (case k4 => k_asm); (case k5 => k_asm); (case k6 => k_is); (case k7 => k_is); (case k8 => k_room); (case k9 => first | exact BindsTo.of_eq rfl | exact binds_K (by k_in) rfl (by k_is) rfl rfl rfl | fail "k_enter: no rule for these arguments"); (case c5 => decide); (case kB => exact locs rfl); (case c2 => exact rfl); (case c3 => exact rfl); (case c4 => exact rfl); k_whole; intro g' L' h' FG' F' N' B' X' T' D'; (try dsimp only); (try k_lift B'); (try k_fold))
  k_steps
  (rename Fr _ _ _ _ => F7); (rename News _ _ _ _ => N7)
  exact hQ _ _ F7 N7
end Mine
end

section
open PySem PySem.W PyProof.Rows PySem.Calls
namespace Mine
local macro_rules | `(tactic| walk_at "idle line 0") => `(tactic| fail "idle")
local macro_rules | `(tactic| k_room) => `(tactic| ((try simp only [depth_mark, depth_under_make, depth_under_kw, depth_in1, depth_deeper, depth_caller, recursionLimit]); omega))
local macro_rules | `(tactic| k_units) => `(tactic| ((try simp only [cLine, units_in1, units_deeper, Around.mark_units, units_caller]); omega))
local macro_rules | `(tactic| walk_at "call ref") => `(tactic| (k_here; (with_reducible show wpAny _ _ (call (Value.ref 227) _) _ _ _); refine stop_of ?_))
set_option maxRecDepth 100000 in
set_option maxHeartbeats 8000000 in
theorem susp100 {w : World} {A₀ : Around} {env : Env} {outer : List Env} {d u : Nat} {gs : Option (List Code)} {base h₀ : Heap} {L : Addr} {s s₀ : Shared} {m mg mb : Str → Option Value}
  {Q : Value → Shared → Prop} {E : Value → Shared → Prop} {rest : List (Addr × Obj)} {M dM H C t dt : Addr} {es : List Ent} {nH : Nat} {hs1 hs2 hs3 hs4 hs5 hs6 : Int} {tk1 tk2 tk3 tk4 tk5 tk6 tk7 : Tok} {now : Int} {vt : Value} {bt : Bool}
  (hd9 : d ≤ 315) (hu9 : u ≤ 280) (hf9 : env.frame = some L) (hk9 : env.scope.kind = .function)
  (B : Below A₀ base outer h₀) (X : (hd.heap_39 w.params).In h₀) (T : T18 s₀ mg mb h₀) (F : Fr h₀ L s.heap m)
  (n1 : @Ne Nat M H) (n2 : @Ne Nat dM H) (n3 : @Ne Nat t H) (n4 : @Ne Nat dt H) (n5 : @Ne Nat M dt) (n6 : @Ne Nat dM dt) (n7 : @Ne Nat t dt) (hoff : OwnOff rest [H, dt]) (hpw : es.Pairwise fun a b => a.c ≠ b.c)
  (hes : ∀ x ∈ es, (x.q, x.obj) ∈ rest) (hes3 : es.length ≤ 3) (hts : ∀ x ∈ es, ∃ dx, (x.t, instObj 123 dx) ∈ (t, instObj 123 dt) :: rest)
  (N : News h₀ L s.heap ((H, listOf (refs es) nH) :: (M, instObj 244 dM) :: (dM, dictOf [⟨hs1, .str (Str.ofString "tasks") tk1, .ref H⟩, ⟨hs2, .str (Str.ofString "now") tk2, .int now tk3⟩, ⟨hs3, .str (Str.ofString "counter") tk4, .ref C⟩] 3)
     :: (t, instObj 123 dt) :: (dt, dictOf [⟨hs4, .str (Str.ofString "taskTime") tk5, vt⟩, ⟨hs5, .str (Str.ofString "isScheduled") tk6, .bool bt⟩, ⟨hs6, .str (Str.ofString "taskManager") tk7, .ref M⟩] 3) :: rest))
  (hQ1 : (∀ x ∈ es, x.t ≠ t) → ∀ h' tk', Fr h₀ L h' m → News h₀ L h' ((H, listOf (refs es) nH) :: (M, instObj 244 dM) :: (dM, dictOf [⟨hs1, .str (Str.ofString "tasks") tk1, .ref H⟩, ⟨hs2, .str (Str.ofString "now") tk2, .int now tk3⟩, ⟨hs3, .str (Str.ofString "counter") tk4, .ref C⟩] 3) :: (t, instObj 123 dt) :: (dt, dictOf [⟨hs4, .str (Str.ofString "taskTime") tk5, vt⟩, ⟨hs5, .str (Str.ofString "isScheduled") tk6, .bool bt⟩, ⟨hs6, .str (Str.ofString "taskManager") tk7, .ref M⟩] 3) :: rest) → Q .none { s with heap := h', toks := tk' })
  (hQ2 : ∀ i x, es[i]? = some x → x.t = t → (∀ j y, j < i → es[j]? = some y → y.t ≠ t) → ∀ h' tk', Fr h₀ L h' m → News h₀ L h' ((H, listOf (refs (hpf (es.eraseIdx i))) (nH + 1)) :: (M, instObj 244 dM) :: (dM, dictOf [⟨hs1, .str (Str.ofString "tasks") tk1, .ref H⟩, ⟨hs2, .str (Str.ofString "now") tk2, .int now tk3⟩, ⟨hs3, .str (Str.ofString "counter") tk4, .ref C⟩] 3) :: (t, instObj 123 dt) :: (dt, dictOf [⟨hs4, .str (Str.ofString "taskTime") tk5, vt⟩, ⟨hs5, .str (Str.ofString "isScheduled") tk6, .bool false⟩, ⟨hs6, .str (Str.ofString "taskManager") tk7, .ref M⟩] 3) :: rest) → Q .none { s with heap := h', toks := tk' })
  : wpAny (model Challenge.rw_fe0018_01.row.prog w) ⟨none, d, some (env :: outer), gs, u⟩ (call (.ref 100) [.ref t]) Q E s := by
  revert X; k_fill; intro X
  try k_fold
  refine wpAny_call ?_
  (refine' code_def ?k1 ?k2 ?k3 ?k4 ?k5 ?kA ?kF ?kK ?k6 ?k7 ?k8 ?k9 ?kB ?_ ?c2 ?c3 ?c4 ?c5; (case kA => exact rfl); (case kF => first | exact rfl | assumption); (case kK => first | exact rfl | assumption); (case k1 => k_asm); (case k2 => k_asm); (case k3 => k_asm); (case k4 => k_asm); (case k5 => k_asm); (case k6 => k_is); (case k7 => k_is); (case k8 => k_room); (case k9 => first | exact BindsTo.of_eq rfl | exact binds_K (by k_in) rfl (by k_is) rfl rfl rfl | fail "k_enter: no rule for these arguments"); (case c5 => decide); (case kB => exact locs rfl); (case c2 => exact rfl); (case c3 => exact rfl); (case c4 => exact rfl); k_whole; intro g' L' h' FG' F' N' B' X' T'; (try dsimp only); (try k_lift B'); (try k_fold))
  k_steps
  unfold Stop
  (rename Fr _ _ _ _ => F5); (rename News _ _ _ _ => N5)
  refine susp (by simp only [depth_deeper]; omega) (by simp only [Around.deeper_units]; omega) rfl rfl (by assumption) (by assumption) (by assumption) F5 n1 n2 n3 n4 n5 n6 n7 hoff hpw hes hes3 hts N5 ?_ ?_
  · intro hno h1 tk1 F6 N6
    clear N5 F5
    k_steps
    (rename Fr _ _ _ _ => F7); (rename News _ _ _ _ => N7)
    exact hQ1 hno _ _ F7 N7
  · intro i x hx hxt hbef h1 tk1 F6 N6
    clear N5 F5
    k_steps
    (rename Fr _ _ _ _ => F7); (rename News _ _ _ _ => N7)
    exact hQ2 i x hx hxt hbef _ _ F7 N7
end Mine
end

section
open PySem PySem.W PyProof.Rows PySem.Calls
set_option maxRecDepth 100000
set_option maxHeartbeats 4000000
namespace Mine
/-- a row of the law: where the tuple lies, its time, its turn, its task's number -/
structure Row3 where
  q : Addr
  w : Int
  tw : Tok
  c : Int
  tc : Tok
  k : Int
  tk : Tok
abbrev Row3.obj (e : Row3) : Obj := { cls := .type "tuple", data := .seq #[.int e.w e.tw, .int e.c e.tc, .int e.k e.tk] }
abbrev rrefs (rs : List Row3) : Array Value := (rs.map fun e => Value.ref e.q).toArray
open LCg LCt
section
variable {prog : Program} {w : World} {A : Around} {E : Value → Shared → Prop} {s : Shared} {h₀ : Heap} {L : Addr} {m : Str → Option Value} {env : Env}

/-- a block's turns over a list, each item's value told -/
theorem rest_map {α : Type} {rs : List α} {its : Array Value} {elt : Expr} {x : Str} {scope : Scope} {cl : List (Str × Addr)} {S : List (Addr × Obj) → Prop} {Fin : List Value → List (Addr × Obj) → Prop} {news : List (Addr × Obj)} (val out : α → Value)
    (hits : its = (rs.map val).toArray) (hS : S news)
    (hev : ∀ r ∈ rs, ∀ I oI C oC D ys m₂ h tk E' (Q' : Value → Shared → Prop), NsObj oC m₂ → m₂ x = some (val r) → Fr h₀ L h m → News h₀ L h ((I, oI) :: (C, oC) :: (D, lst ys) :: news) → (∀ tk', Q' (out r) { s with heap := h, toks := tk' }) →
      wpAny (model prog w) A (eval elt (compEnvC scope cl C env)) Q' E' { s with heap := h, toks := tk })
    (fin : Fin (rs.map out) news) : CompRest prog w A h₀ L m env elt x scope cl s S (fun i v => its[i]? = some v) Fin its.size 0 [] news := by
  have hsz : its.size = rs.length := by rw [hits]; simp
  rw [hsz]
  suffices H : ∀ j i, i + j = rs.length → CompRest prog w A h₀ L m env elt x scope cl s S (fun i v => its[i]? = some v) Fin j i ((rs.take i).map out) news by
    have := H rs.length 0 (by omega)
    simpa using this
  intro j
  induction j with
  | zero =>
    intro i hi
    refine CompRest.zero ?_
    rw [List.take_of_length_le (by omega)]; exact fin
  | succ j ih =>
    intro i hi
    refine CompRest.succ fun v I oI C oC D m₂ h tk E' hP hC hx F N off ne => ?_
    have hlt : i < rs.length := by omega
    have hv : v = val rs[i] := by
      have : its[i]? = some (val rs[i]) := by rw [hits]; simp [hlt]
      rw [this] at hP; exact (Option.some.inj hP).symm
    subst hv
    refine hev rs[i] (List.getElem_mem hlt) I oI C oC D _ m₂ h tk E' _ hC hx F N fun tk' => ?_
    refine ⟨h, tk', news, rfl, F, N, off, hS, ?_⟩
    have := ih (i + 1) (by omega)
    rw [List.take_add_one, List.getElem?_eq_getElem hlt, List.map_append] at this
    simpa only [Option.toList_some, List.map_cons, List.map_nil] using this

/-- the same with a test -/
theorem rest_filter {α : Type} {rs : List α} {its : Array Value} {ct elt : Expr} {x : Str} {scope : Scope} {cl : List (Str × Addr)} {S : List (Addr × Obj) → Prop} {Fin : List Value → List (Addr × Obj) → Prop} {news : List (Addr × Obj)} (val out : α → Value) (tst : α → Bool)
    (hits : its = (rs.map val).toArray) (hS : S news)
    (hct : ∀ r ∈ rs, ∀ I oI C oC D ys m₂ h tk E' (Q' : Bool → Shared → Prop), NsObj oC m₂ → m₂ x = some (val r) → Fr h₀ L h m → News h₀ L h ((I, oI) :: (C, oC) :: (D, lst ys) :: news) → (∀ tk', Q' (tst r) { s with heap := h, toks := tk' }) →
      wpAny (model prog w) A (isTrue ct (compEnvC scope cl C env) (eval ct (compEnvC scope cl C env))) Q' E' { s with heap := h, toks := tk })
    (hev : ∀ r ∈ rs, ∀ I oI C oC D ys m₂ h tk E' (Q' : Value → Shared → Prop), NsObj oC m₂ → m₂ x = some (val r) → Fr h₀ L h m → News h₀ L h ((I, oI) :: (C, oC) :: (D, lst ys) :: news) → (∀ tk', Q' (out r) { s with heap := h, toks := tk' }) →
      wpAny (model prog w) A (eval elt (compEnvC scope cl C env)) Q' E' { s with heap := h, toks := tk })
    (fin : Fin ((rs.filter tst).map out) news) : CompRestT prog w A h₀ L m env ct elt x scope cl s S (fun i v => its[i]? = some v) Fin its.size 0 [] news := by
  have hsz : its.size = rs.length := by rw [hits]; simp
  rw [hsz]
  suffices H : ∀ j i, i + j = rs.length → CompRestT prog w A h₀ L m env ct elt x scope cl s S (fun i v => its[i]? = some v) Fin j i (((rs.take i).filter tst).map out) news by
    have := H rs.length 0 (by omega)
    simpa using this
  intro j
  induction j with
  | zero =>
    intro i hi
    refine CompRestT.zero ?_
    rw [List.take_of_length_le (by omega)]; exact fin
  | succ j ih =>
    intro i hi
    refine CompRestT.succ fun v I oI C oC D m₂ h tk E' hP hC hx F N off ne => ?_
    have hlt : i < rs.length := by omega
    have hv : v = val rs[i] := by
      have : its[i]? = some (val rs[i]) := by rw [hits]; simp [hlt]
      rw [this] at hP; exact (Option.some.inj hP).symm
    subst hv
    have next := ih (i + 1) (by omega)
    rw [List.take_add_one, List.getElem?_eq_getElem hlt, List.filter_append, List.map_append] at next
    refine hct rs[i] (List.getElem_mem hlt) I oI C oC D _ m₂ h tk E' _ hC hx F N fun tk' => ?_
    cases hb : tst rs[i] with
    | true =>
      simp only [if_true]
      refine hev rs[i] (List.getElem_mem hlt) I oI C oC D _ m₂ h tk' E' _ hC hx F N fun tk2 => ?_
      refine ⟨h, tk2, news, rfl, F, N, off, hS, ?_⟩
      simpa [hb] using next
    | false =>
      simp only [Bool.false_eq_true, if_false]
      refine ⟨h, tk', news, rfl, F, N, off, hS, ?_⟩
      simpa [hb] using next

/-- row[2] in a block -/
theorem row2 {e : Row3} {x : Str} {p1 p2 p3 : Pos} {kk : Nat} {scope : Scope} {cl : List (Str × Addr)} {C : Addr} {oC : Obj} {m₂ : Str → Option Value} {news : List (Addr × Obj)} {Q : Value → Shared → Prop}
    (N : News h₀ L s.heap news) (hC : (C, oC) ∈ news) (hoC : NsObj oC m₂) (hx : m₂ x = some (.ref e.q)) (he : (e.q, e.obj) ∈ news)
    (hk : (compEnvC scope cl C env).scope.kind = .function) (hl : (compEnvC scope cl C env).kindOf x = some .local) (hd : (x == ("__debug__" : Str)) = false)
    (h : ∀ tk', Q (.int e.k e.tk) { s with toks := tk' }) :
    wpAny (model prog w) A (eval (.Subscript (.Name x p1) (.Constant (.int 2) kk p2) p3) (compEnvC scope cl C env)) Q E s := by
  refine Subscript_ (LCgL.ld_own N hC hoC hx (wpAny_Constant_int ?_) hk hl hd)
  refine item_tupleT (l := [.int e.w e.tw, .int e.c e.tc, .int e.k e.tk]) (j := 2) (x := .int e.k e.tk) ⟨_, (N _ he).1, rfl, 0, rfl⟩ (by decide) (by decide) (by rfl) rfl (h _)
theorem off1_ne {D : Addr} : ∀ {l : List (Addr × Obj)}, Off1 D l → ∀ p ∈ l, @Ne Nat p.1 D
  | [], _, _, h => nomatch h
  | _ :: _, x, p, h => by
    rcases List.mem_cons.mp h with rfl | h
    · exact x.1
    · exact off1_ne x.2 p h
/-- [row for row in rows if row[2] != k] -/
theorem keep_rule {x rows kn : Str} {p1 px pi p2 p3 p4 p5 p6 pos : Pos} {kk : Nat} {scope : Scope} {cl : List (Str × Addr)} {R ck : Addr} {ock : Obj} {rs : List Row3} {n : Nat} {k : Int} {tkk : Tok} {news : List (Addr × Obj)} {Q : Value → Shared → Prop}
    (F : Fr h₀ L s.heap m) (N : News h₀ L s.heap news) (hLe : env.locals = L) (hm : m rows = some (.ref R)) (hR : (R, listOf (rrefs rs) n) ∈ news) (hrs : ∀ r ∈ rs, (r.q, r.obj) ∈ news) (h3 : rs.length ≤ 4) (hcko : (ck, ock) ∈ news) (hdk : ock.data = .cell (some (.int k tkk)))
    (hh : A.handled = none) (hk : env.scope.kind = .function) (hl : env.kindOf rows = some .local) (hdr : (rows == ("__debug__" : Str)) = false)
    (hclos : closureFor scope env = pure cl) (hcell : ∀ y ∈ scope.names, y.2 ≠ .cell) (hkind : scope.kind = .function) (hnames : ∀ y ∈ scope.names, y.2 = .local → scope.names.lookup y.1 = some .local) (hx : scope.names.lookup x = some .local)
    (hcl : cl.lookup kn = some ck) (hkc : ∀ C, (compEnvC scope cl C env).kindOf kn = some .cell) (hxl : ∀ C, (compEnvC scope cl C env).kindOf x = some .local) (hsk : ∀ C, (compEnvC scope cl C env).scope.kind = .function) (hd1 : (x == ("__debug__" : Str)) = false) (hd2 : (kn == ("__debug__" : Str)) = false)
    (h : ∀ D h' tk', Fr h₀ L h' m → News h₀ L h' ((D, listOf (rrefs (rs.filter fun r => r.k != k)) (rs.filter fun r => r.k != k).length) :: news) → (∀ p ∈ news, @Ne Nat p.1 D) → Q (.ref D) { s with heap := h', toks := tk' }) :
    wpAny (model prog w) A (eval (.ListComp (.Name x p1) [⟨.Name x px, .Name rows pi, [.Compare (.Subscript (.Name x p2) (.Constant (.int 2) kk p3) p4) [.NotEq] [.Name kn p5] p6], 0⟩] scope pos) env) Q E s := by
  subst hLe
  have hsl : sizeLine = 16777216 := by decide +kernel
  refine ListComp_T F hclos hcell hkind hnames hx (wpAny_Name (wpAny_loadName_local hk hl F.ns hm ?_) hdr)
  refine CompSrcT.ledger hh F N hR (by simp [rrefs, hsl]; omega) fun g => ?_
  refine rest_filter (rs := rs) (val := fun r => .ref r.q) (out := fun r => .ref r.q) (tst := fun r => r.k != k) rfl (.inr ⟨_, hR, rfl, _, rfl⟩) ?_ ?_ ?_
  · intro r hr I oI C oC D ys m₂ h₁ tk₁ E' Q' hoC hxm F₁ N₁ hq
    have sub : ∀ p ∈ news, p ∈ (I, oI) :: (C, oC) :: (D, lst ys) :: news := fun p hp => .tail _ (.tail _ (.tail _ hp))
    refine wpAny_isTrue_Compare1 (row2 N₁ (.tail _ (.head _)) hoC hxm (sub _ (hrs r hr)) (hsk C) (hxl C) hd1 fun tk₂ => ?_)
    refine lcf_cell N₁ hcl (sub _ hcko) hdk (ne_int (wpAny_truthy_bool (hq _))) (hsk C) (hkc C) hd2
  · intro r hr I oI C oC D ys m₂ h₁ tk₁ E' Q' hoC hxm F₁ N₁ hq
    exact LCgL.ld_own N₁ (.tail _ (.head _)) hoC hxm (hq _) (hsk C) (hxl C) hd1
  · intro D h₁ tk₁ F₁ N₁ o1
    refine h D h₁ tk₁ F₁ ?_ (off1_ne o1)
    have e : lst ((rs.filter fun r => r.k != k).map fun r => Value.ref r.q) = listOf (rrefs (rs.filter fun r => r.k != k)) (rs.filter fun r => r.k != k).length := by
      show ({ cls := .type "list", data := .seq _ (List.length (List.map _ _)) } : Obj) = _
      rw [List.length_map]
    rw [← e]; exact N₁
/-- [row[2] for row in rows] -/
theorem ks_rule {x rows : Str} {px pi p2 p3 p4 pos : Pos} {kk : Nat} {scope : Scope} {cl : List (Str × Addr)} {R : Addr} {rs : List Row3} {n : Nat} {news : List (Addr × Obj)} {Q : Value → Shared → Prop}
    (F : Fr h₀ L s.heap m) (N : News h₀ L s.heap news) (hLe : env.locals = L) (hm : m rows = some (.ref R)) (hR : (R, listOf (rrefs rs) n) ∈ news) (hrs : ∀ r ∈ rs, (r.q, r.obj) ∈ news) (h3 : rs.length ≤ 4)
    (hh : A.handled = none) (hk : env.scope.kind = .function) (hl : env.kindOf rows = some .local) (hdr : (rows == ("__debug__" : Str)) = false)
    (hclos : closureFor scope env = pure cl) (hcell : ∀ y ∈ scope.names, y.2 ≠ .cell) (hkind : scope.kind = .function) (hnames : ∀ y ∈ scope.names, y.2 = .local → scope.names.lookup y.1 = some .local) (hx : scope.names.lookup x = some .local)
    (hxl : ∀ C, (compEnvC scope cl C env).kindOf x = some .local) (hsk : ∀ C, (compEnvC scope cl C env).scope.kind = .function) (hd1 : (x == ("__debug__" : Str)) = false)
    (h : ∀ D h' tk', Fr h₀ L h' m → News h₀ L h' ((D, listOf (rs.map fun r => Value.int r.k r.tk).toArray rs.length) :: news) → (∀ p ∈ news, @Ne Nat p.1 D) → Q (.ref D) { s with heap := h', toks := tk' }) :
    wpAny (model prog w) A (eval (.ListComp (.Subscript (.Name x p2) (.Constant (.int 2) kk p3) p4) [⟨.Name x px, .Name rows pi, [], 0⟩] scope pos) env) Q E s := by
  subst hLe
  have hsl : sizeLine = 16777216 := by decide +kernel
  refine ListComp_U F hclos hcell hkind hnames hx (wpAny_Name (wpAny_loadName_local hk hl F.ns hm ?_) hdr)
  refine CompSrc.ledger hh F N hR (by simp [rrefs, hsl]; omega) fun g => ?_
  refine rest_map (rs := rs) (val := fun r => .ref r.q) (out := fun r => .int r.k r.tk) rfl (.inr ⟨_, hR, rfl, _, rfl⟩) ?_ ?_
  · intro r hr I oI C oC D ys m₂ h₁ tk₁ E' Q' hoC hxm F₁ N₁ hq
    have sub : ∀ p ∈ news, p ∈ (I, oI) :: (C, oC) :: (D, lst ys) :: news := fun p hp => .tail _ (.tail _ (.tail _ hp))
    exact row2 N₁ (.tail _ (.head _)) hoC hxm (sub _ (hrs r hr)) (hsk C) (hxl C) hd1 fun tk₂ => hq _
  · intro D h₁ tk₁ F₁ N₁ o1
    refine h D h₁ tk₁ F₁ ?_ (off1_ne o1)
    have e : lst (rs.map fun r => Value.int r.k r.tk) = listOf (rs.map fun r => Value.int r.k r.tk).toArray rs.length := by
      show ({ cls := .type "list", data := .seq _ (List.length (List.map _ _)) } : Obj) = _
      rw [List.length_map]
    rw [← e]; exact N₁
end
end Mine
end

section
open PySem PySem.W PyProof.Rows PySem.Calls
set_option maxRecDepth 100000
set_option maxHeartbeats 4000000
namespace Mine
open LCg LCt
section
variable {prog : Program} {w : World} {A : Around} {E : Value → Shared → Prop} {s : Shared} {h₀ : Heap} {L : Addr} {m : Str → Option Value} {env : Env}

/-- rows = [row for row in rows if row[2] != k] -/
theorem keep_asg {x y rows kn : Str} {p1 px py pi p2 p3 p4 p5 p6 pos spos : Pos} {kk : Nat} {scope : Scope} {cl : List (Str × Addr)} {R ck : Addr} {ock : Obj} {rs : List Row3} {n : Nat} {k : Int} {tkk : Tok} {news : List (Addr × Obj)} {Q : Flow → Shared → Prop}
    (hsw : swapsWith (.ListComp (.Name x p1) [⟨.Name x px, .Name rows pi, [.Compare (.Subscript (.Name x p2) (.Constant (.int 2) kk p3) p4) [.NotEq] [.Name kn p5] p6], 0⟩] scope pos) (some (.Name y py)) spos.line env = pure true) (hy : env.kindOf y = some .local) (hpp : (env.scope.kind == .class || (env.scope.kind == .module && env.locals != env.globals)) = false)
    (F : Fr h₀ L s.heap m) (N : News h₀ L s.heap news) (hLe : env.locals = L) (hm : m rows = some (.ref R)) (hR : (R, listOf (rrefs rs) n) ∈ news) (hrs : ∀ r ∈ rs, (r.q, r.obj) ∈ news) (h3 : rs.length ≤ 4) (hcko : (ck, ock) ∈ news) (hdk : ock.data = .cell (some (.int k tkk)))
    (hh : A.handled = none) (hk : env.scope.kind = .function) (hl : env.kindOf rows = some .local) (hdr : (rows == ("__debug__" : Str)) = false)
    (hclos : closureFor scope env = pure cl) (hcell : ∀ y ∈ scope.names, y.2 ≠ .cell) (hkind : scope.kind = .function) (hnames : ∀ y ∈ scope.names, y.2 = .local → scope.names.lookup y.1 = some .local) (hx : scope.names.lookup x = some .local)
    (hcl : cl.lookup kn = some ck) (hkc : ∀ C, (compEnvC scope cl C env).kindOf kn = some .cell) (hxl : ∀ C, (compEnvC scope cl C env).kindOf x = some .local) (hsk : ∀ C, (compEnvC scope cl C env).scope.kind = .function) (hd1 : (x == ("__debug__" : Str)) = false) (hd2 : (kn == ("__debug__" : Str)) = false)
    (h : ∀ D h' tk', Fr h₀ L h' (fun z => if z = y then some (.ref D) else m z) → News h₀ L h' ((D, listOf (rrefs (rs.filter fun r => r.k != k)) (rs.filter fun r => r.k != k).length) :: news) → (∀ p ∈ news, @Ne Nat p.1 D) → Q .next { s with heap := h', toks := tk' }) :
    wpAny (model prog w) A (exec (.Assign [.Name y py] (.ListComp (.Name x p1) [⟨.Name x px, .Name rows pi, [.Compare (.Subscript (.Name x p2) (.Constant (.int 2) kk p3) p4) [.NotEq] [.Name kn p5] p6], 0⟩] scope pos) spos) env) Q E s := by
  have hLe' := hLe
  subst hLe
  have hsl : sizeLine = 16777216 := by decide +kernel
  refine LCt.Assign_ListComp_T F rfl hsw hclos hcell hkind hnames hx hy hpp (wpAny_Name (wpAny_loadName_local hk hl F.ns hm ?_) hdr)
  refine CompSrcT.ledger hh F N hR (by simp [rrefs, hsl]; omega) fun g => ?_
  refine rest_filter (rs := rs) (val := fun r => .ref r.q) (out := fun r => .ref r.q) (tst := fun r => r.k != k) rfl (.inr ⟨_, hR, rfl, _, rfl⟩) ?_ ?_ ?_
  · intro r hr I oI C oC D ys m₂ h₁ tk₁ E' Q' hoC hxm F₁ N₁ hq
    have sub : ∀ p ∈ news, p ∈ (I, oI) :: (C, oC) :: (D, lst ys) :: news := fun p hp => .tail _ (.tail _ (.tail _ hp))
    refine wpAny_isTrue_Compare1 (row2 N₁ (.tail _ (.head _)) hoC hxm (sub _ (hrs r hr)) (hsk C) (hxl C) hd1 fun tk₂ => ?_)
    refine lcf_cell N₁ hcl (sub _ hcko) hdk (ne_int (wpAny_truthy_bool (hq _))) (hsk C) (hkc C) hd2
  · intro r hr I oI C oC D ys m₂ h₁ tk₁ E' Q' hoC hxm F₁ N₁ hq
    exact LCgL.ld_own N₁ (.tail _ (.head _)) hoC hxm (hq _) (hsk C) (hxl C) hd1
  · intro D h₁ tk₁ F₁ N₁ o1
    refine h D h₁ tk₁ F₁ ?_ (off1_ne o1)
    have e : lst ((rs.filter fun r => r.k != k).map fun r => Value.ref r.q) = listOf (rrefs (rs.filter fun r => r.k != k)) (rs.filter fun r => r.k != k).length := by
      show ({ cls := .type "list", data := .seq _ (List.length (List.map _ _)) } : Obj) = _
      rw [List.length_map]
    rw [← e]; exact N₁
end
end Mine
end

section
open PySem PySem.W PyProof.Rows PySem.Calls
set_option maxRecDepth 100000
set_option maxHeartbeats 4000000
namespace Mine
def Row3.lt (a b : Row3) : Bool := decide (a.w < b.w ∨ (a.w = b.w ∧ a.c < b.c))
section
variable {prog : Program} {w : World} {A : Around} {E : Value → Shared → Prop} {s : Shared} {h₀ : Heap} {L : Addr} {m : Str → Option Value} {news : List (Addr × Obj)}
theorem ask_row {vs : List Value} {i j : Nat} {a b : Row3} {C : Bool → Shared → Prop} (hi : vs.getD i .none = .ref a.q) (hj : vs.getD j .none = .ref b.q) (oa : s.heap.get? a.q = some a.obj) (ob : s.heap.get? b.q = some b.obj) (hne : a.c ≠ b.c) (h : C (a.lt b) s) :
    kas_ask prog w A (tuples' true) vs i j C s := by
  unfold kas_ask
  rw [hi, hj]
  refine kat_lt oa rfl ob rfl ?_
  show KatLex prog w A true _ C [(.int a.w a.tw, .int b.w b.tw), (.int a.c a.tc, .int b.c b.tc), (.int a.k a.tk, .int b.k b.tk)] 0 s
  refine kat_cons (wpAny_eqBool_int (kat_go (fun e => kat_yes (kat_cons (wpAny_eqBool_int ?_))) fun e => kat_no (oneLt_int ?_)))
  · have e1 : (a.c == b.c) = false := by simpa using hne
    rw [e1]
    refine kat_no (kat_one _ _ (wpAny_lt_int ?_))
    have e2 : decide (a.c < b.c) = a.lt b := by
      unfold Row3.lt
      have := eq_of_beq e
      simp only [this, Int.lt_irrefl, true_and, false_or]
    show C (decide (a.c < b.c)) s
    rw [e2]; exact h
  · have e2 : decide (a.w < b.w) = a.lt b := by
      unfold Row3.lt
      have h1 : a.w ≠ b.w := fun q => by rw [q] at e; simp at e
      simp only [h1, false_and, or_false]
    rw [e2]; exact h
theorem zip_snd (vs : List Value) : (vs.toArray.zip vs.toArray).map (·.2) = vs.toArray := by
  simp
  exact List.map_snd_zip (Nat.le_refl _)
theorem sorted_few {l : Addr} {vs : List Value} {Q : Value → Shared → Prop} (F : Fr h₀ L s.heap m) (N : News h₀ L s.heap news) (hl : s.heap.IsList l vs.toArray) (h1 : vs.length ≤ 1)
    (h : ∀ D c h', Fr h₀ L h' m → News h₀ L h' ((D, listOf vs.toArray c) :: news) → (∀ q ∈ news, q.1 < D) → Q (.ref D) { s with heap := h' }) : wpAny (model prog w) A (call (.builtin "sorted") [.ref l]) Q E s := by
  have hsl := sizeLine_eq
  refine Calls.call_function_entry kind_sorted plain_sorted entry_sorted (args_sorted1 _) ?_
  unfold Builtin.«sorted»
  refine wpAny_bind (m := checkCount "sorted" 1 1 _) (wpAny_pure ?_)
  refine wpAny_bind (collect_list hl ?_ (by omega))
  refine wpAny_bind (wpAny_newList ?_ (by omega))
  have na : ∀ p ∈ news, p.1 ≠ s.heap.objs.size := fun p hp => Nat.ne_of_lt (Heap.lt_size (N p hp).1)
  have hL : L < s.heap.objs.size := F.ns.lt
  have hup : ∀ b, s.heap.objs.size ≤ b → h₀.get? b = none := fun b hb => Heap.get?_none_of_le (Nat.le_trans F.above (Nat.le_trans (Nat.le_of_lt hL) hb))
  have z1 : (s.heap.push (seqObj "list" #[] 0)).objs.size = s.heap.objs.size + 1 := size_push' _ _
  have S1 := Heap.SameBut.update (s.heap.push (seqObj "list" #[] 0)) s.heap.objs.size (Obj.mapSeq (· ++ vs.toArray))
  have F1 := kas_fr (F.push (seqObj "list" #[] 0)) S1 (Nat.ne_of_gt hL) (hup _ (Nat.le_refl _))
  have N1 := kas_news (N.grown (fun b o e => Heap.get?_push_of_some (seqObj "list" #[] 0) e)) S1 na
  generalize hg : (s.heap.push (seqObj "list" #[] 0)).update s.heap.objs.size (Obj.mapSeq (· ++ vs.toArray)) = g1 at F1 N1 S1
  have z2 : g1.objs.size = s.heap.objs.size + 1 := by rw [← hg, Heap.size_update, z1]
  clear hg S1
  have o2 : (g1.push (seqObj "list" vs.toArray 0)).get? g1.objs.size = some (seqObj "list" vs.toArray 0) := Heap.get?_push_size _ rfl
  have F2 := F1.push (seqObj "list" vs.toArray 0)
  have N2 := N1.grown (fun b o e => Heap.get?_push_of_some (seqObj "list" vs.toArray 0) e)
  show wpAny _ _ _ _ _ { s with heap := g1.push (seqObj "list" vs.toArray 0) }
  generalize hD : g1.objs.size = D at o2
  generalize g1.push (seqObj "list" vs.toArray 0) = g2 at o2 F2 N2
  have hDs : @Eq Nat D (s.heap.objs.size + 1) := hD.symm.trans z2
  have hDl : ∀ p ∈ news, p.1 < D := fun p hp => by rw [hDs]; exact Nat.lt_succ_of_lt (Heap.lt_size (N p hp).1)
  have hDL : D ≠ L := by rw [hDs]; exact Nat.ne_of_gt (Nat.lt_succ_of_lt hL)
  have hD0 : h₀.get? D = none := hup _ (by rw [hDs]; exact Nat.le_succ _)
  have hDn : ∀ p ∈ news, p.1 ≠ D := fun p hp => Nat.ne_of_lt (hDl p hp)
  refine wpAny_bind (wpAny_holding (wpAny_call_entry slot_list_sort ⟨_, o2, rfl⟩ entry_list_sort ?body (args_list_sort _)))
  case body =>
    rw [list_sort_plain]
    refine wpAny_bind (listItems_at o2 rfl ?_)
    refine wpAny_bind (listUpdate_at o2 rfl ?_ (by rw [List.size_toArray]; omega) (Nat.zero_le _))
    have S3 := Heap.SameBut.update g2 D (Obj.mapSeq fun _ => (#[] : Array Value))
    obtain ⟨e1, o3⟩ : ∃ e1, (g2.update D (Obj.mapSeq fun _ => (#[] : Array Value))).get? D = some (seqObj "list" #[] e1) := ⟨_, get?_update_seq o2 fun _ => #[]⟩
    have F3 := kas_fr F2 S3 hDL hD0
    have N3 := kas_news N2 S3 hDn
    show wpAny _ _ _ _ _ { s with heap := g2.update D (Obj.mapSeq fun _ => (#[] : Array Value)) }
    generalize g2.update D (Obj.mapSeq fun _ => (#[] : Array Value)) = g3 at o3 F3 N3
    refine wpAny_bind (seqEpoch_at o3 rfl ?_)
    refine wpAny_bind (wpAny_newTuple ?_ (by show vs.length ≤ _; omega))
    refine wpAny_bind (wpAny_newList ?_ (Nat.zero_le _))
    refine wpAny_holding ?_
    have F4 := (F3.push (seqObj "tuple" vs.toArray 0)).push (seqObj "list" #[] 0)
    have N4 := (N3.grown (fun b o e => Heap.get?_push_of_some (seqObj "tuple" vs.toArray 0) e)).grown (fun b o e => Heap.get?_push_of_some (seqObj "list" #[] 0) e)
    have o4 : ((g3.push (seqObj "tuple" vs.toArray 0)).push (seqObj "list" #[] 0)).get? D = some (seqObj "list" #[] e1) := Heap.get?_push_of_some _ (Heap.get?_push_of_some _ o3)
    show wpAny _ _ _ _ _ { s with heap := (g3.push (seqObj "tuple" vs.toArray 0)).push (seqObj "list" #[] 0) }
    generalize (g3.push (seqObj "tuple" vs.toArray 0)).push (seqObj "list" #[] 0) = g4 at o4 F4 N4
    have h2 : vs.toArray.size < 2 := by rw [List.size_toArray]; omega
    dsimp only
    rw [if_pos h2, if_pos h2]
    refine wpAny_bind (wpAny_pure ?_)
    rw [StateT.run_pure]
    refine wpAny_bind (wpAny_pure ?_)
    dsimp only
    refine wpAny_bind (seqEpoch_at o4 rfl ?_)
    have hz : (arrOf (SortSt.mk' general' (vs.toArray.zip vs.toArray) #[] 7 none)).map (·.2) = vs.toArray := by
      exact zip_snd vs
    rw [hz]
    refine wpAny_bind (listUpdate_at o4 rfl ?_ (Nat.zero_le _) (by rw [List.size_toArray]; omega))
    have S5 := Heap.SameBut.update g4 D (Obj.mapSeq fun _ => vs.toArray)
    obtain ⟨c5, o5⟩ : ∃ c, (g4.update D (Obj.mapSeq fun _ => vs.toArray)).get? D = some (seqObj "list" vs.toArray c) := ⟨_, get?_update_seq o4 fun _ => vs.toArray⟩
    have F5 := kas_fr F4 S5 hDL hD0
    have N5 := kas_news N4 S5 hDn
    simp only [bne_self_eq_false, Bool.false_eq_true, if_false]
    refine wpAny_pure ?_
    refine ⟨_, rfl, wpAny_pure ⟨_, rfl, h D c5 _ F5 (fun p hp => ?_) hDl⟩⟩
    rcases List.mem_cons.mp hp with rfl | hp
    · exact ⟨o5, hDL, hD0⟩
    · exact N5 p hp
/-- the ordered rows -/
def Srt (ds : List Row3) : Prop := ds.Pairwise fun a b => a.lt b = true
theorem kinds_rows {rs : List Row3} {Q : SortKind → Shared → Prop} (hne : 0 < rs.length) (hrs : ∀ r ∈ rs, s.heap.get? r.q = some r.obj) (h : Q (tuples' true) s) : wpAny (model prog w) A (keyKind' (rs.map fun e => Value.ref e.q).toArray) Q E s := by
  refine kat_kind (vs := rs.map fun e => Value.ref e.q) (fs := rs.map fun e => Value.int e.w e.tw) (T := .type "int") ?_ (by simpa using hne) (fun v hv => ?_) rfl h
  · clear hne
    induction rs with
    | nil => exact KatTups.nil
    | cons r rs ih => exact KatTups.cons (hrs r (.head _)) rfl rfl rfl (ih fun x hx => hrs x (.tail _ hx))
  · obtain ⟨r, _, rfl⟩ := List.mem_map.mp hv
    exact Looks.of_pure rfl
/-- the answer of a plan of questions, and whether it asks of two other items below n -/
def krun {α : Type} (lt : Nat → Nat → Bool) : KasT α → α
  | .ret a => a
  | .ask i j k => krun lt (k (lt i j))
def kgood {α : Type} (n : Nat) (lt : Nat → Nat → Bool) : KasT α → Bool
  | .ret _ => true
  | .ask i j k => decide (i < n) && decide (j < n) && (i != j) && kgood n lt (k (lt i j))
theorem krun_wp {α : Type} {cmp : Nat → Nat → (Bool → Shared → Prop) → Shared → Prop} {n : Nat} {lt : Nat → Nat → Bool} {Q : α → Shared → Prop} {s : Shared} (hc : ∀ i j C, i < n → j < n → i ≠ j → C (lt i j) s → cmp i j C s) : ∀ (t : KasT α), kgood n lt t = true → Q (krun lt t) s → t.kasWp cmp Q s
  | .ret _, _, h => h
  | .ask i j k, g, h => by
    simp only [kgood, Bool.and_eq_true, decide_eq_true_eq, bne_iff_ne, ne_eq] at g
    exact hc i j _ g.1.1.1 g.1.1.2 g.1.2 (krun_wp hc (k (lt i j)) g.2 h)
def lt3 (x y z : Bool) : Nat → Nat → Bool
  | 1, 0 => x
  | 0, 1 => !x
  | 2, 1 => y
  | 1, 2 => !y
  | 2, 0 => z
  | 0, 2 => !z
  | _, _ => false
def ord3 (x y z : Bool) : List Nat := if x then (if y then [2, 1, 0] else if z then [1, 2, 0] else [1, 0, 2]) else if y then (if z then [2, 0, 1] else [0, 2, 1]) else [0, 1, 2]
def ord2 (x : Bool) : List Nat := if x then [1, 0] else [0, 1]
theorem good3 (x y z : Bool) : kgood 3 (lt3 x y z) (kas_sort 3) = true := by cases x <;> cases y <;> cases z <;> kernel_rfl
theorem run3 (x y z : Bool) : (krun (lt3 x y z) (kas_sort 3)).toList = ord3 x y z := by cases x <;> cases y <;> cases z <;> kernel_rfl
theorem good2 (x : Bool) : kgood 2 (lt3 x false false) (kas_sort 2) = true := by cases x <;> kernel_rfl
theorem run2 (x : Bool) : (krun (lt3 x false false) (kas_sort 2)).toList = ord2 x := by cases x <;> kernel_rfl
theorem lt_anti {a b : Row3} (h : a.c ≠ b.c) : (!a.lt b) = b.lt a := by
  unfold Row3.lt
  by_cases h1 : a.w < b.w ∨ (a.w = b.w ∧ a.c < b.c)
  · have h2 : ¬ (b.w < a.w ∨ (b.w = a.w ∧ b.c < a.c)) := by omega
    simp only [h1, h2, decide_true, decide_false, Bool.not_true]
  · have h2 : b.w < a.w ∨ (b.w = a.w ∧ b.c < a.c) := by omega
    simp only [h1, h2, decide_true, decide_false, Bool.not_false]
/-- sorted(rows) -/
theorem sorted_rows {R : Addr} {rs : List Row3} {n : Nat} {Q : Value → Shared → Prop} (F : Fr h₀ L s.heap m) (N : News h₀ L s.heap news) (hR : (R, listOf (rrefs rs) n) ∈ news) (hrs : ∀ r ∈ rs, (r.q, r.obj) ∈ news) (h3 : rs.length ≤ 3) (hc : rs.Pairwise fun a b => a.c ≠ b.c)
    (h : ∀ D ds c h', ds.Perm rs → Srt ds → Fr h₀ L h' m → News h₀ L h' ((D, listOf (rrefs ds) c) :: news) → (∀ q ∈ news, q.1 < D) → Q (.ref D) { s with heap := h' }) : wpAny (model prog w) A (call (.builtin "sorted") [.ref R]) Q E s := by
  have hl : s.heap.IsList R (rs.map fun e => Value.ref e.q).toArray := ⟨_, (N _ hR).1, rfl, _, rfl⟩
  have few : rs.length ≤ 1 → Srt rs → wpAny (model prog w) A (call (.builtin "sorted") [.ref R]) Q E s := fun h1 hs =>
    sorted_few F N hl (by simpa using h1) fun D c h' F' N' lt => h D rs c h' (.refl _) hs F' N' lt
  have fin : ∀ (D : Addr) (e1 : Nat) (h' : Heap) (out : List Row3) (vs : List Value), (∀ q ∈ news, q.1 < D) → Fr h₀ L h' m → News h₀ L h' ((D, seqObj "list" #[] e1) :: news) → out.Perm rs → Srt out → vs = out.map (fun e => Value.ref e.q) → KasFin h₀ L m D e1 vs (fun s3 => Q (.ref D) s3) { s with heap := h' } := fun D e1 h' out vs hlt F' N' hp hs e => by
    subst e
    exact KasFin.intro (g := fun o => (D, o) :: news) F' N' (.head fun p hp => Nat.ne_of_lt (hlt p hp)) fun h'' c F'' N'' => h D out c h'' hp hs F'' N'' hlt
  rcases rs with _ | ⟨a, _ | ⟨b, _ | ⟨c, _ | ⟨d, r⟩⟩⟩⟩
  · exact few (Nat.zero_le _) List.Pairwise.nil
  · exact few (Nat.le_refl _) (List.pairwise_singleton _ _)
  · have hab : a.c ≠ b.c := by simpa using hc
    refine kat_sorted (vs := [.ref a.q, .ref b.q]) F N hl (Nat.le_refl _) (Nat.le_of_ble_eq_true rfl) fun D e1 h' F' N' hlt => ?_
    have g : ∀ r ∈ [a, b], h'.get? r.q = some r.obj := fun r hr => (N' _ (.tail _ (hrs r hr))).1
    refine kinds_rows (rs := [a, b]) (Nat.zero_lt_succ _) g ?_
    have ga := g a (.head _)
    have gb := g b (.tail _ (.head _))
    refine krun_wp (n := 2) (lt := lt3 (b.lt a) false false) (fun i j C hi hj hij hC => ?_) (kas_sort 2) (good2 _) ?_
    · rcases i with _ | _ | i <;> rcases j with _ | _ | j <;> first | exact absurd rfl hij | exact absurd hi (by omega) | exact absurd hj (by omega) | skip
      · exact ask_row (a := a) (b := b) rfl rfl ga gb hab (by rw [← lt_anti hab.symm]; exact hC)
      · exact ask_row (a := b) (b := a) rfl rfl gb ga hab.symm hC
    · rw [run2]
      cases hx : b.lt a with
      | true => exact fin D e1 h' [b, a] _ hlt F' N' (.swap _ _ _) (by unfold Srt; simpa using hx) rfl
      | false =>
        have : a.lt b = true := by rw [← lt_anti hab.symm, hx]; rfl
        exact fin D e1 h' [a, b] _ hlt F' N' (.refl _) (by unfold Srt; simpa using this) rfl
  · obtain ⟨⟨hab, hac⟩, hbc⟩ : (a.c ≠ b.c ∧ a.c ≠ c.c) ∧ b.c ≠ c.c := by simpa using hc
    refine kat_sorted (vs := [.ref a.q, .ref b.q, .ref c.q]) F N hl (Nat.le_succ _) (Nat.le_of_ble_eq_true rfl) fun D e1 h' F' N' hlt => ?_
    have g : ∀ r ∈ [a, b, c], h'.get? r.q = some r.obj := fun r hr => (N' _ (.tail _ (hrs r hr))).1
    refine kinds_rows (rs := [a, b, c]) (Nat.zero_lt_succ _) g ?_
    have ga := g a (.head _)
    have gb := g b (.tail _ (.head _))
    have gc := g c (.tail _ (.tail _ (.head _)))
    refine krun_wp (n := 3) (lt := lt3 (b.lt a) (c.lt b) (c.lt a)) (fun i j C hi hj hij hC => ?_) (kas_sort 3) (good3 _ _ _) ?_
    · rcases i with _ | _ | _ | i <;> rcases j with _ | _ | _ | j <;> first | exact absurd rfl hij | exact absurd hi (by omega) | exact absurd hj (by omega) | skip
      · exact ask_row (a := a) (b := b) rfl rfl ga gb hab (by rw [← lt_anti hab.symm]; exact hC)
      · exact ask_row (a := a) (b := c) rfl rfl ga gc hac (by rw [← lt_anti hac.symm]; exact hC)
      · exact ask_row (a := b) (b := a) rfl rfl gb ga hab.symm hC
      · exact ask_row (a := b) (b := c) rfl rfl gb gc hbc (by rw [← lt_anti hbc.symm]; exact hC)
      · exact ask_row (a := c) (b := a) rfl rfl gc ga hac.symm hC
      · exact ask_row (a := c) (b := b) rfl rfl gc gb hbc.symm hC
    · rw [run3]
      have tr : ∀ {x y z : Row3}, x.lt y = true → y.lt z = true → x.lt z = true := fun {x y z} h1 h2 => by
        unfold Row3.lt at *; simp only [decide_eq_true_eq] at *; omega
      have an : ∀ {x y : Row3}, x.c ≠ y.c → x.lt y = false → y.lt x = true := fun {x y} hn h1 => by rw [← lt_anti hn, h1]; rfl
      cases hx : b.lt a with
      | true =>
        cases hy : c.lt b with
        | true => exact fin D e1 h' [c, b, a] _ hlt F' N' (List.reverse_perm [a, b, c]) (by unfold Srt; simp [hx, hy, tr hy hx]) rfl
        | false =>
          cases hz : c.lt a with
          | true => exact fin D e1 h' [b, c, a] _ hlt F' N' (List.perm_append_comm (l₁ := [b, c]) (l₂ := [a])) (by unfold Srt; simp [hx, hz, an hbc.symm hy]) rfl
          | false => exact fin D e1 h' [b, a, c] _ hlt F' N' (.swap _ _ _) (by unfold Srt; simp [hx, an hbc.symm hy, an hac.symm hz]) rfl
      | false =>
        have hx' := an hab.symm hx
        cases hy : c.lt b with
        | true =>
          cases hz : c.lt a with
          | true => exact fin D e1 h' [c, a, b] _ hlt F' N' (List.perm_append_comm (l₁ := [c]) (l₂ := [a, b])) (by unfold Srt; simp [hx', hy, hz]) rfl
          | false => exact fin D e1 h' [a, c, b] _ hlt F' N' (.cons _ (.swap _ _ _)) (by unfold Srt; simp [hx', hy, an hac.symm hz]) rfl
        | false => exact fin D e1 h' [a, b, c] _ hlt F' N' (.refl _) (by unfold Srt; simp [hx', an hbc.symm hy, tr hx' (an hbc.symm hy)]) rfl
  · exact absurd h3 (by simp only [List.length_cons]; omega)
end
end Mine
end

section
open PySem PySem.W PyProof.Rows PySem.Calls
set_option maxRecDepth 100000
set_option maxHeartbeats 4000000
namespace Mine
/-- what the manager's list and the law's rows have in common -/
structure Jn (tk : Int → Addr) (now turn : Int) (es : List Ent) (rs : List Row3) : Prop where
  perm : (es.map fun e => (e.w, e.c, e.t)).Perm (rs.map fun r => (r.w, r.c, tk r.k))
  hmin : ∀ e es', es = e :: es' → ∀ x ∈ es', e.lt x = true
  kn : ∀ r ∈ rs, r.k = 0 ∨ r.k = 1 ∨ r.k = 2
  knd : (rs.map (·.k)).Nodup
  clt : ∀ r ∈ rs, r.c < turn
  cnd : (rs.map (·.c)).Nodup
  wmax : ∀ r ∈ rs, r.w ≤ now + 1999
def Inj (tk : Int → Addr) : Prop := tk 0 ≠ tk 1 ∧ tk 0 ≠ tk 2 ∧ tk 1 ≠ tk 2
theorem Inj.eq {tk : Int → Addr} (I : Inj tk) {a b : Int} (ha : a = 0 ∨ a = 1 ∨ a = 2) (hb : b = 0 ∨ b = 1 ∨ b = 2) (h : tk a = tk b) : a = b := by
  obtain ⟨i, j, k⟩ := I
  rcases ha with rfl | rfl | rfl <;> rcases hb with rfl | rfl | rfl <;> first | rfl | exact absurd h i | exact absurd h j | exact absurd h k | exact absurd h.symm i | exact absurd h.symm j | exact absurd h.symm k
section
variable {tk : Int → Addr} {now turn : Int} {es : List Ent} {rs : List Row3}
theorem Jn.len (J : Jn tk now turn es rs) : es.length = rs.length := by simpa using J.perm.length_eq
theorem few_keys : ∀ (l : List Int), (∀ x ∈ l, x = 0 ∨ x = 1 ∨ x = 2) → l.Nodup → l.length ≤ 3
  | [], _, _ => Nat.zero_le _
  | [_], _, _ => by simp
  | [_, _], _, _ => by simp
  | [_, _, _], _, _ => by simp
  | a :: b :: c :: d :: _, h, n => by
    exfalso
    simp only [List.mem_cons, forall_eq_or_imp] at h
    simp only [List.nodup_cons, List.mem_cons, not_or] at n
    omega
theorem Jn.len3 (J : Jn tk now turn es rs) : rs.length ≤ 3 := by
  have := few_keys (rs.map (·.k)) (fun x hx => by obtain ⟨r, hr, rfl⟩ := List.mem_map.mp hx; exact J.kn r hr) J.knd
  simpa using this
theorem Jn.ent (J : Jn tk now turn es rs) {e : Ent} (he : e ∈ es) : ∃ r ∈ rs, r.w = e.w ∧ r.c = e.c ∧ tk r.k = e.t := by
  have := J.perm.mem_iff.mp (List.mem_map_of_mem (f := fun e => (e.w, e.c, e.t)) he)
  obtain ⟨r, hr, h⟩ := List.mem_map.mp this
  simp only [Prod.mk.injEq] at h
  exact ⟨r, hr, h.1, h.2.1, h.2.2⟩
theorem Jn.row (J : Jn tk now turn es rs) {r : Row3} (hr : r ∈ rs) : ∃ e ∈ es, e.w = r.w ∧ e.c = r.c ∧ e.t = tk r.k := by
  have := J.perm.mem_iff.mpr (List.mem_map_of_mem (f := fun r : Row3 => (r.w, r.c, tk r.k)) hr)
  obtain ⟨e, he, h⟩ := List.mem_map.mp this
  simp only [Prod.mk.injEq] at h
  exact ⟨e, he, h.1, h.2.1, h.2.2⟩
theorem Jn.cp (J : Jn tk now turn es rs) : (es.map (·.c)).Nodup := by
  have h : ((es.map fun e => (e.w, e.c, e.t)).map fun p => p.2.1).Perm ((rs.map fun r => (r.w, r.c, tk r.k)).map fun p => p.2.1) := J.perm.map _
  rw [List.map_map, List.map_map] at h
  exact h.nodup_iff.mpr J.cnd
theorem pw_of_nd {α : Type} (f : α → Int) {l : List α} (h : (l.map f).Nodup) : l.Pairwise fun a b => f a ≠ f b := by
  have := (List.pairwise_map (f := f) (l := l) (R := (· ≠ ·))).mp h
  exact this
theorem Jn.epw (J : Jn tk now turn es rs) : es.Pairwise fun a b => a.c ≠ b.c := pw_of_nd _ J.cp
theorem Jn.rpw (J : Jn tk now turn es rs) : rs.Pairwise fun a b => a.c ≠ b.c := pw_of_nd _ J.cnd
theorem Jn.eclt (J : Jn tk now turn es rs) : ∀ e ∈ es, e.c < turn := fun e he => by
  obtain ⟨r, hr, _, h, _⟩ := J.ent he
  have := J.clt r hr; omega
theorem Jn.tnd (J : Jn tk now turn es rs) (I : Inj tk) : (es.map (·.t)).Nodup := by
  have h : ((es.map fun e => (e.w, e.c, e.t)).map fun p => p.2.2).Perm ((rs.map fun r => (r.w, r.c, tk r.k)).map fun p => p.2.2) := J.perm.map _
  rw [List.map_map, List.map_map] at h
  refine h.nodup_iff.mpr ?_
  refine (List.pairwise_map (R := (· ≠ ·))).mpr ?_
  refine (pw_of_nd (fun r : Row3 => r.k) J.knd).imp_of_mem fun {a b} ha hb hne => ?_
  exact fun e => hne (I.eq (J.kn a ha) (J.kn b hb) e)
/-- whether row k stands -/
def stands (rs : List Row3) (k : Int) : Bool := (rs.map (·.k)).any (· == k)
theorem stands_iff {k : Int} : stands rs k = true ↔ ∃ r ∈ rs, r.k = k := by
  unfold stands
  simp
theorem Jn.two (J : Jn tk now turn es rs) {k : Int} (hk : k = 0 ∨ k = 1 ∨ k = 2) (h : stands rs k = false) : es.length ≤ 2 := by
  have h3 : (k :: rs.map (·.k)).length ≤ 3 := few_keys _ (fun x hx => by
    rcases List.mem_cons.mp hx with rfl | hx
    · exact hk
    · obtain ⟨r, hr, rfl⟩ := List.mem_map.mp hx; exact J.kn r hr) (List.nodup_cons.mpr ⟨fun hm => by
      obtain ⟨r, hr, e⟩ := List.mem_map.mp hm
      rw [stands_iff.mpr ⟨r, hr, e⟩] at h; exact absurd h (by simp), J.knd⟩)
  have := J.len
  rw [List.length_cons, List.length_map] at h3; omega
theorem Jn.has (J : Jn tk now turn es rs) {k : Int} (h : stands rs k = true) : ∃ e ∈ es, e.t = tk k := by
  obtain ⟨r, hr, rfl⟩ := stands_iff.mp h
  obtain ⟨e, he, _, _, q⟩ := J.row hr
  exact ⟨e, he, q⟩
theorem Jn.hasnt (J : Jn tk now turn es rs) (I : Inj tk) {k : Int} (hk : k = 0 ∨ k = 1 ∨ k = 2) (h : ∀ e ∈ es, e.t ≠ tk k) : stands rs k = false := by
  cases hs : stands rs k with
  | false => rfl
  | true => obtain ⟨e, he, q⟩ := J.has hs; exact absurd q (h e he)
theorem filter_none {k : Int} (h : stands rs k = false) : (rs.filter fun r => r.k != k) = rs := by
  refine List.filter_eq_self.mpr fun r hr => ?_
  rw [bne_iff_ne]
  intro e
  rw [stands_iff.mpr ⟨r, hr, e⟩] at h; cases h
theorem hpf_min {l : List Ent} (h2 : l.length ≤ 2) (hc : l.Pairwise fun a b => a.c ≠ b.c) : ∀ e es', hpf l = e :: es' → ∀ x ∈ es', e.lt x = true := by
  intro e es' h x hx
  rcases l with _ | ⟨a, _ | ⟨b, _ | ⟨c, r⟩⟩⟩
  · cases h
  · cases h; cases hx
  · have hab : a.c ≠ b.c := by simpa using hc
    have h' : (if a.lt b then [a, b] else [b, a]) = e :: es' := h
    cases hl : a.lt b with
    | true => rw [hl] at h'; cases h'; cases List.mem_singleton.mp hx; exact hl
    | false =>
      rw [hl] at h'; cases h'; cases List.mem_singleton.mp hx
      unfold Ent.lt at hl ⊢; simp only [decide_eq_true_eq, decide_eq_false_iff_not] at hl ⊢; omega
  · exact absurd h2 (by simp only [List.length_cons]; omega)
theorem psh_min {l : List Ent} {q : Ent} (h2 : l.length ≤ 2) (hc : ∀ x ∈ l, q.c ≠ x.c) (hm : ∀ e es', l = e :: es' → ∀ x ∈ es', e.lt x = true) : ∀ e es', psh l q = e :: es' → ∀ x ∈ es', e.lt x = true := by
  intro e es' h x hx
  have flip : ∀ {a b : Ent}, a.c ≠ b.c → a.lt b = false → b.lt a = true := fun {a b} hn hl => by
    unfold Ent.lt at hl ⊢; simp only [decide_eq_true_eq, decide_eq_false_iff_not] at hl ⊢; omega
  have tr : ∀ {a b c : Ent}, a.lt b = true → b.lt c = true → a.lt c = true := fun {a b c} h1 h2 => by
    unfold Ent.lt at *; simp only [decide_eq_true_eq] at *; omega
  rcases l with _ | ⟨a, _ | ⟨b, _ | ⟨c, r⟩⟩⟩
  · cases h; cases hx
  · have h' : (if q.lt a then [q, a] else [a, q]) = e :: es' := h
    cases hl : q.lt a with
    | true => rw [hl] at h'; cases h'; cases List.mem_singleton.mp hx; exact hl
    | false => rw [hl] at h'; cases h'; cases List.mem_singleton.mp hx; exact flip (hc _ (.head _)) hl
  · have h' : (if q.lt a then [q, b, a] else [a, b, q]) = e :: es' := h
    have hab := hm a [b] rfl b (.head _)
    cases hl : q.lt a with
    | true =>
      rw [hl] at h'; cases h'
      rcases List.mem_cons.mp hx with rfl | hx
      · exact tr hl hab
      · cases List.mem_singleton.mp hx; exact hl
    | false =>
      rw [hl] at h'; cases h'
      rcases List.mem_cons.mp hx with rfl | hx
      · exact hab
      · cases List.mem_singleton.mp hx; exact flip (hc _ (.head _)) hl
  · exact absurd h2 (by simp only [List.length_cons]; omega)
theorem ppp_min {e : Ent} {l : List Ent} (h2 : l.length ≤ 2) (hc : l.Pairwise fun a b => a.c ≠ b.c) : ∀ e' es', ppp (e :: l) = e' :: es' → ∀ x ∈ es', e'.lt x = true := by
  intro e' es' h x hx
  rcases l with _ | ⟨a, _ | ⟨b, _ | ⟨c, r⟩⟩⟩
  · cases h
  · cases h; cases hx
  · have hab : a.c ≠ b.c := by simpa using hc
    have h' : (if b.lt a then [b, a] else [a, b]) = e' :: es' := h
    cases hl : b.lt a with
    | true => rw [hl] at h'; cases h'; cases List.mem_singleton.mp hx; exact hl
    | false =>
      rw [hl] at h'; cases h'; cases List.mem_singleton.mp hx
      unfold Ent.lt at hl ⊢; simp only [decide_eq_true_eq, decide_eq_false_iff_not] at hl ⊢; omega
  · exact absurd h2 (by simp only [List.length_cons]; omega)
theorem erase_perm {α : Type} : ∀ (l : List α) (i : Nat) (x : α), l[i]? = some x → l.Perm (x :: l.eraseIdx i)
  | [], _, _, h => by simp at h
  | a :: l, 0, x, h => by simp at h; subst h; exact .refl _
  | a :: l, i + 1, x, h => by
    have := erase_perm l i x (by simpa using h)
    exact (this.cons a).trans (.swap _ _ _)
/-- one task taken out -/
theorem Jn.drop (J : Jn tk now turn es rs) (I : Inj tk) {k : Int} (hk : k = 0 ∨ k = 1 ∨ k = 2) {i : Nat} {x : Ent} (hx : es[i]? = some x) (ht : x.t = tk k) : Jn tk now turn (hpf (es.eraseIdx i)) (rs.filter fun r => r.k != k) := by
  have hp := erase_perm es i x hx
  have sub : (rs.filter fun r => r.k != k).Sublist rs := List.filter_sublist
  have hl : (es.eraseIdx i).length ≤ 2 := by
    have h1 := hp.length_eq; have h2 := J.len; have h3 := J.len3; simp at h1; omega
  refine ⟨?_, hpf_min hl (J.epw.sublist (List.eraseIdx_sublist ..)), fun r hr => J.kn r (sub.subset hr), J.knd.sublist (sub.map _), fun r hr => J.clt r (sub.subset hr), J.cnd.sublist (sub.map _), fun r hr => J.wmax r (sub.subset hr)⟩
  refine ((hpf_perm _).map _).trans ?_
  have h1 := (hp.map fun e : Ent => (e.w, e.c, e.t)).symm.trans J.perm
  have h2 := h1.filter fun p => decide (p.2.2 ≠ tk k)
  have nd : ((x :: es.eraseIdx i).map (·.t)).Nodup := (hp.map (fun e : Ent => e.t)).nodup_iff.mp (J.tnd I)
  have hnx : ∀ y ∈ es.eraseIdx i, y.t ≠ tk k := fun y hy e => by
    have := (List.nodup_cons.mp nd).1
    exact this (List.mem_map.mpr ⟨y, hy, e.trans ht.symm⟩)
  have e1 : ((x :: es.eraseIdx i).map fun e : Ent => (e.w, e.c, e.t)).filter (fun p => decide (p.2.2 ≠ tk k)) = (es.eraseIdx i).map fun e : Ent => (e.w, e.c, e.t) := by
    rw [List.map_cons, List.filter_cons_of_neg (by simp [ht])]
    refine List.filter_eq_self.mpr fun p hp => ?_
    obtain ⟨y, hy, rfl⟩ := List.mem_map.mp hp
    exact decide_eq_true (hnx y hy)
  have e2 : (rs.map fun r : Row3 => (r.w, r.c, tk r.k)).filter (fun p => decide (p.2.2 ≠ tk k)) = (rs.filter fun r => r.k != k).map fun r : Row3 => (r.w, r.c, tk r.k) := by
    rw [List.filter_map]
    congr 1
    refine List.filter_congr fun r hr => ?_
    show decide (tk r.k ≠ tk k) = (r.k != k)
    by_cases h : r.k = k
    · simp [h]
    · have : tk r.k ≠ tk k := fun e => h (I.eq (J.kn r hr) hk e)
      simp [h, this]
  rw [e1, e2] at h2
  exact h2
/-- a row added -/
theorem Jn.push (J : Jn tk now turn es rs) {q : Ent} {r : Row3} (hk : r.k = 0 ∨ r.k = 1 ∨ r.k = 2) (hs : stands rs r.k = false) (hw : q.w = r.w) (hc : q.c = turn) (hc' : r.c = turn) (ht : q.t = tk r.k) (hm : r.w ≤ now + 1999) : Jn tk now (turn + 1) (psh es q) (rs ++ [r]) := by
  have h2 := J.two hk hs
  refine ⟨?_, psh_min h2 (fun x hx => by have := J.eclt x hx; omega) J.hmin, fun x hx => ?_, ?_, fun x hx => ?_, ?_, fun x hx => ?_⟩
  · refine ((psh_perm q h2).map _).trans ?_
    rw [List.map_append, List.map_cons, List.map_cons, List.map_nil, hw, hc, ht, ← hc']
    exact (J.perm.cons _).trans (List.perm_append_comm (l₁ := [_]))
  · rcases List.mem_append.mp hx with hx | hx
    · exact J.kn x hx
    · cases List.mem_singleton.mp hx; exact hk
  · rw [List.map_append]
    refine List.nodup_append.mpr ⟨J.knd, by simp, fun a ha b hb e => ?_⟩
    obtain ⟨y, hy, rfl⟩ := List.mem_map.mp ha
    cases List.mem_singleton.mp hb
    rw [stands_iff.mpr ⟨y, hy, e⟩] at hs; cases hs
  · rcases List.mem_append.mp hx with hx | hx
    · have := J.clt x hx; omega
    · cases List.mem_singleton.mp hx; omega
  · rw [List.map_append]
    refine List.nodup_append.mpr ⟨J.cnd, by simp, fun a ha b hb e => ?_⟩
    obtain ⟨y, hy, rfl⟩ := List.mem_map.mp ha
    cases List.mem_singleton.mp hb
    have := J.clt y hy
    have e' : y.c = r.c := e
    omega
  · rcases List.mem_append.mp hx with hx | hx
    · exact J.wmax x hx
    · cases List.mem_singleton.mp hx; exact hm
theorem Jn.pass (J : Jn tk now turn es rs) {x : Int} (hx : 0 ≤ x) : Jn tk (now + x) turn es rs :=
  { J with wmax := fun r hr => by have := J.wmax r hr; omega }
theorem Jn.order (J : Jn tk now turn es rs) {ds : List Row3} (hp : ds.Perm rs) : Jn tk now turn es ds :=
  ⟨J.perm.trans (hp.symm.map _), J.hmin, fun r hr => J.kn r (hp.mem_iff.mp hr), (hp.map _).nodup_iff.mpr J.knd, fun r hr => J.clt r (hp.mem_iff.mp hr), (hp.map _).nodup_iff.mpr J.cnd, fun r hr => J.wmax r (hp.mem_iff.mp hr)⟩
/-- the first entry is the first row in order -/
theorem Jn.first {e : Ent} {es : List Ent} {d : Row3} {ds : List Row3} (J : Jn tk now turn (e :: es) (d :: ds)) (hs : Srt (d :: ds)) : e.w = d.w ∧ e.c = d.c ∧ e.t = tk d.k := by
  obtain ⟨r, hr, h1, h2, h3⟩ := J.ent (.head _ : e ∈ e :: es)
  rcases List.mem_cons.mp hr with rfl | hr'
  · exact ⟨h1.symm, h2.symm, h3.symm⟩
  exfalso
  obtain ⟨y, hy, g1, g2, g3⟩ := J.row (.head _ : d ∈ d :: ds)
  have hd := (List.pairwise_cons.mp hs).1 r hr'
  unfold Row3.lt at hd
  simp only [decide_eq_true_eq] at hd
  rcases List.mem_cons.mp hy with rfl | hy
  · omega
  · have := J.hmin e es rfl y hy
    unfold Ent.lt at this
    simp only [decide_eq_true_eq] at this
    omega
theorem Jn.pop {e : Ent} {es : List Ent} {d : Row3} {ds : List Row3} (J : Jn tk now turn (e :: es) (d :: ds)) (hs : Srt (d :: ds)) : Jn tk now turn (ppp (e :: es)) ds := by
  have h3 := J.len3; have hl := J.len
  have h2 : es.length ≤ 2 := by simp at h3 hl; omega
  obtain ⟨a, b, c⟩ := J.first hs
  have p := J.perm
  rw [List.map_cons, List.map_cons, a, b, c] at p
  exact ⟨((ppp_perm h2).map _).trans p.cons_inv, ppp_min h2 (List.pairwise_cons.mp J.epw).2, fun r hr => J.kn r (.tail _ hr), (List.nodup_cons.mp J.knd).2, fun r hr => J.clt r (.tail _ hr), (List.nodup_cons.mp J.cnd).2, fun r hr => J.wmax r (.tail _ hr)⟩
end
end Mine
end

section
open PySem PySem.W PyProof.Rows PySem.Calls
set_option maxRecDepth 100000
set_option maxHeartbeats 4000000
namespace Mine
def EqV (x y : Value) : Prop := ∀ (prog : Program) (w : World) (A : Around) (E : Value → Shared → Prop) (s : Shared) (Q : Bool → Shared → Prop), Q true s → wpAny (model prog w) A (eqBool x y) Q E s
theorem EqV.refl (x : Value) : EqV x x := fun prog w A E s Q h => by
  unfold eqBool
  refine wpAny_holding ?_
  rw [if_pos (beq_self_eq_true x)]
  exact wpAny_bind (wpAny_rule (wpAny_pure h))
theorem EqV.int (i : Int) (t u : Tok) : EqV (.int i t) (.int i u) := fun prog w A E s Q h => wpAny_eqBool_int (by rw [beq_self_eq_true]; exact h)
theorem entry_eqloop : entryFor table "list.__eq__.loop" = some Builtin.«list.__eq__.loop» := entryFor_of_fast (by kernel_rfl)
section
variable {prog : Program} {w : World} {A : Around} {E : Value → Shared → Prop} {s : Shared} {R : Result → Shared → Prop}
theorem eqloop {a b : Addr} {xs ys : Array Value} {n k : Nat} (ha : s.heap.get? a = some (listOf xs n)) (hb : s.heap.get? b = some (listOf ys k)) (hz : xs.size = ys.size) (heq : ∀ (i : Nat) (x y : Value), xs[i]? = some x → ys[i]? = some y → EqV x y)
    (h : R (.ok (.ret (.bool false))) s) : ∀ j i, i + j = xs.size → codeAny (model prog w) A (.builtin "list.__eq__.loop" ⟨[.ref a, .ref b, rawInt (i : Nat), rawInt (3 : Nat)], []⟩) R s := by
  obtain ⟨hp, g, d, tk, os⟩ := s
  intro j
  induction j with
  | zero =>
    intro i hi
    refine codeAny_builtin entry_eqloop ?_
    wp_walk
    have h1 : xs[((i : Nat) : Int).toNat]? = none := by rw [Int.toNat_natCast]; simp; omega
    rw [h1]
    refine wpAny_bind (listItems_at ha rfl (wpAny_bind (listItems_at hb rfl (wpAny_pure ?_))))
    rw [hz]
    have e : (Value.bool (ys.size != ys.size)) = .bool false := by simp
    show R (.ok (.ret (Value.bool (ys.size != ys.size)))) _
    rw [e]; exact h
  | succ j ih =>
    intro i hi
    have hlt : i < xs.size := by omega
    have hlt' : i < ys.size := by omega
    refine codeAny_builtin entry_eqloop ?_
    wp_walk
    have h1 : xs[((i : Nat) : Int).toNat]? = some xs[i] := by rw [Int.toNat_natCast]; simp [hlt]
    have h2 : ys[((i : Nat) : Int).toNat]? = some ys[i] := by rw [Int.toNat_natCast]; simp [hlt']
    rw [h1, h2]
    refine wpAny_bind (heq i xs[i] ys[i] (by simp [hlt]) (by simp [hlt']) _ _ _ _ _ _ ?_)
    rw [if_pos rfl]
    refine wpAny_pure ⟨plainId_quiet (by decide +kernel) _, ?_⟩
    have := ih (i + 1) (by omega)
    have e : ((i + 1 : Nat) : Int) = (i : Int) + 1 := by push_cast; rfl
    rw [e] at this
    exact this

theorem meets_ne_eq (a b : Addr) (xs ys : Array Value) (n k : Nat) :
    Meets (Builtin.«list.__ne__» ⟨[.ref a, .ref b], []⟩) (fun _ R s => s.heap.get? a = some (listOf xs n) ∧ s.heap.get? b = some (listOf ys k) ∧ xs.size = ys.size ∧ (∀ (i : Nat) (x y : Value), xs[i]? = some x → ys[i]? = some y → EqV x y) ∧ R (.ok (.ret (.bool false))) s) := by
  rintro prog w A R ⟨hp, g, d, tk, os⟩ ⟨ha, hb, hz, heq, h⟩
  have hsub := sub_list_list
  have hT : Shared.TypeIs ⟨hp, g, d, tk, os⟩ (.ref b) "list" := ⟨_, hb, rfl⟩
  wp_walk
  exact ⟨plainId_quiet (by decide +kernel) _, eqloop ha hb hz heq h xs.size 0 (by omega)⟩
/-- two lists of like items are not unlike -/
theorem ne_like {a b : Addr} {xs ys : Array Value} {n k : Nat} {Q : Value → Shared → Prop} (ha : s.heap.get? a = some (listOf xs n)) (hb : s.heap.get? b = some (listOf ys k)) (hz : xs.size = ys.size) (heq : ∀ (i : Nat) (x y : Value), xs[i]? = some x → ys[i]? = some y → EqV x y)
    (hu : A.units < cLine) (h : Q (.bool false) s) : wpAny (model prog w) A (compareOp .NotEq (.ref a) (.ref b)) Q E s :=
  cmp_ofNotEq (richCompare_meets_room ⟨_, ha, rfl⟩ ⟨_, hb, rfl⟩ F.slot_list_ne F.entry_list_ne (F.args_list_ne_2 _ _) (meets_ne_eq a b xs ys n k) ⟨ha, hb, hz, heq, (fun e => nomatch e), h⟩ hu)
theorem like3 {x0 x1 x2 y0 y1 y2 : Value} (h0 : EqV x0 y0) (h1 : EqV x1 y1) (h2 : EqV x2 y2) : ∀ (i : Nat) (x y : Value), (#[x0, x1, x2] : Array Value)[i]? = some x → (#[y0, y1, y2] : Array Value)[i]? = some y → EqV x y := by
  intro i x y hx hy
  match i, hx, hy with
  | 0, hx, hy => cases hx; cases hy; exact h0
  | 1, hx, hy => cases hx; cases hy; exact h1
  | 2, hx, hy => cases hx; cases hy; exact h2
  | i + 3, hx, hy => simp at hx
end
end Mine
end

section
open PySem PySem.W PyProof.Rows PySem.Calls
set_option maxRecDepth 100000
set_option maxHeartbeats 4000000
namespace Mine
section
variable {prog : Program} {w : World} {A : Around} {E : Value → Shared → Prop} {s : Shared} {R : Result → Shared → Prop}
theorem meets_ne_nil (a b : Addr) (xs : Array Value) (n k : Nat) :
    Meets (Builtin.«list.__ne__» ⟨[.ref a, .ref b], []⟩) (fun _ R s => s.heap.get? a = some (listOf xs n) ∧ s.heap.get? b = some (listOf #[] k) ∧ 0 < xs.size ∧ R (.ok (.ret (.bool true))) s) := by
  rintro prog w A R ⟨hp, g, d, tk, os⟩ ⟨ha, hb, hz, h⟩
  have hsub := sub_list_list
  have hT : Shared.TypeIs ⟨hp, g, d, tk, os⟩ (.ref b) "list" := ⟨_, hb, rfl⟩
  have hne : (xs.size != (#[] : Array Value).size) = true := by
    rw [bne_iff_ne]; show xs.size ≠ 0; omega
  wp_walk
  rw [if_pos hne]
  change wpAny (model prog w) A.in1 _ _ _ _
  refine wpAny_bind (wpAny_rule ?_)
  exact wpAny_pure h
theorem ne_nil {a b : Addr} {xs : Array Value} {n k : Nat} {Q : Value → Shared → Prop} (ha : s.heap.get? a = some (listOf xs n)) (hb : s.heap.get? b = some (listOf #[] k)) (hz : 0 < xs.size)
    (hu : A.units < cLine) (h : Q (.bool true) s) : wpAny (model prog w) A (compareOp .NotEq (.ref a) (.ref b)) Q E s :=
  cmp_ofNotEq (richCompare_meets_room ⟨_, ha, rfl⟩ ⟨_, hb, rfl⟩ F.slot_list_ne F.entry_list_ne (F.args_list_ne_2 _ _) (meets_ne_nil a b xs n k) ⟨ha, hb, hz, (fun e => nomatch e), h⟩ hu)
end
end Mine
end

section
open PySem PySem.W PyProof.Rows PySem.Calls
set_option maxRecDepth 100000
set_option maxHeartbeats 4000000
namespace Mine
/-- a task: where it and its dict lie, the dict's hashes and keys, its time, whether it is in -/
structure Tsk where
  T : Addr
  d : Addr
  h1 : Int
  h2 : Int
  h3 : Int
  k1 : Tok
  k2 : Tok
  k3 : Tok
  v : Value
  b : Bool
abbrev Tsk.ti (t : Tsk) : Addr × Obj := (t.T, instObj 123 t.d)
abbrev Tsk.di (t : Tsk) (M : Addr) : Addr × Obj := (t.d, dictOf [⟨t.h1, .str (Str.ofString "taskTime") t.k1, t.v⟩, ⟨t.h2, .str (Str.ofString "isScheduled") t.k2, .bool t.b⟩, ⟨t.h3, .str (Str.ofString "taskManager") t.k3, .ref M⟩] 3)
open LCg LCt
section
variable {w : World} {A : Around} {E : Value → Shared → Prop} {s : Shared} {h₀ : Heap} {L : Addr} {m : Str → Option Value} {env : Env} {news : List (Addr × Obj)} {M : Addr}
theorem task_time {t : Tsk} {expr : Bool} {Q : Value → Shared → Prop} (X : (hd.heap_39 w.params).In h₀) (F : Fr h₀ L s.heap m) (N : News h₀ L s.heap news) (ht : t.ti ∈ news) (hd1 : t.di M ∈ news) (hv : handedIn t.v = true) (h : Q t.v { s with toks := s.toks + 1 }) :
    wpAny (model Challenge.rw_fe0018_01.row.prog w) A (getAttr (.ref t.T) (Str.ofString "taskTime") expr) Q E s := by
  revert X; k_fill; intro X
  refine' get_own F X (InstAt.of_news N ht hd1) ?g ?hh ?a ?n ?l ?v ?_
  case a => k_is
  case g => k_is
  case hh => k_is
  case n => k_is
  case l => k_get
  case v => exact hv
  exact h
theorem task_in {t : Tsk} {expr : Bool} {Q : Value → Shared → Prop} (X : (hd.heap_39 w.params).In h₀) (F : Fr h₀ L s.heap m) (N : News h₀ L s.heap news) (ht : t.ti ∈ news) (hd1 : t.di M ∈ news) (h : Q (.bool t.b) { s with toks := s.toks + 1 }) :
    wpAny (model Challenge.rw_fe0018_01.row.prog w) A (getAttr (.ref t.T) (Str.ofString "isScheduled") expr) Q E s := by
  revert X; k_fill; intro X
  refine' get_own F X (InstAt.of_news N ht hd1) ?g ?hh ?a ?n ?l ?v ?_
  case a => k_is
  case g => k_is
  case hh => k_is
  case n => k_is
  case l => k_get
  case v => rfl
  exact h
end
section
variable {prog : Program} {w : World} {A : Around} {E : Value → Shared → Prop} {s : Shared} {h₀ : Heap} {L : Addr} {m : Str → Option Value} {env : Env} {news : List (Addr × Obj)} {M : Addr}
/-- [one.ATTR for one in tasks] -/
theorem attrs_rule {attr x tn : Str} {px pi p2 p3 pos : Pos} {scope : Scope} {cl : List (Str × Addr)} {TL : Addr} {ts : List Tsk} {n : Nat} {Q : Value → Shared → Prop} (out : Tsk → Value)
    (F : Fr h₀ L s.heap m) (N : News h₀ L s.heap news) (hLe : env.locals = L) (hm : m tn = some (.ref TL)) (hR : (TL, listOf (ts.map fun t => Value.ref t.T).toArray n) ∈ news) (h3 : ts.length ≤ 4)
    (hget : ∀ t ∈ ts, ∀ s' (Q' : Value → Shared → Prop) E', Fr h₀ L s'.heap m → News h₀ L s'.heap news → (∀ tk', Q' (out t) { s' with toks := tk' }) → wpAny (model prog w) A (getAttr (.ref t.T) attr true) Q' E' s')
    (hh : A.handled = none) (hk : env.scope.kind = .function) (hl : env.kindOf tn = some .local) (hdr : (tn == ("__debug__" : Str)) = false)
    (hclos : closureFor scope env = pure cl) (hcell : ∀ y ∈ scope.names, y.2 ≠ .cell) (hkind : scope.kind = .function) (hnames : ∀ y ∈ scope.names, y.2 = .local → scope.names.lookup y.1 = some .local) (hx : scope.names.lookup x = some .local)
    (hxl : ∀ C, (compEnvC scope cl C env).kindOf x = some .local) (hsk : ∀ C, (compEnvC scope cl C env).scope.kind = .function) (hd1 : (x == ("__debug__" : Str)) = false)
    (h : ∀ D h' tk', Fr h₀ L h' m → News h₀ L h' ((D, listOf (ts.map out).toArray ts.length) :: news) → (∀ p ∈ news, @Ne Nat p.1 D) → Q (.ref D) { s with heap := h', toks := tk' }) :
    wpAny (model prog w) A (eval (.ListComp (.Attribute (.Name x p2) attr p3) [⟨.Name x px, .Name tn pi, [], 0⟩] scope pos) env) Q E s := by
  subst hLe
  have hsl : sizeLine = 16777216 := by decide +kernel
  refine ListComp_U F hclos hcell hkind hnames hx (wpAny_Name (wpAny_loadName_local hk hl F.ns hm ?_) hdr)
  refine CompSrc.ledger hh F N hR (by simp [hsl]; omega) fun g => ?_
  refine rest_map (rs := ts) (val := fun t => .ref t.T) (out := out) rfl (.inr ⟨_, hR, rfl, _, rfl⟩) ?_ ?_
  · intro t ht I oI C oC D ys m₂ h₁ tk₁ E' Q' hoC hxm F₁ N₁ hq
    refine Attribute_any_ (LCgL.ld_own N₁ (.tail _ (.head _)) hoC hxm ?_ (hsk C) (hxl C) hd1)
    exact hget t ht _ _ _ F₁ (fun p hp => N₁ p (.tail _ (.tail _ (.tail _ hp)))) fun tk' => hq tk'
  · intro D h₁ tk₁ F₁ N₁ o1
    refine h D h₁ tk₁ F₁ ?_ (off1_ne o1)
    have e : lst (ts.map out) = listOf (ts.map out).toArray ts.length := by
      show ({ cls := .type "list", data := .seq _ (List.length (List.map _ _)) } : Obj) = _
      rw [List.length_map]
    rw [← e]; exact N₁
theorem rest_range {n : Nat} {a : Int} {elt : Expr} {x : Str} {scope : Scope} {cl : List (Str × Addr)} {Fin : List Value → List (Addr × Obj) → Prop} (out : Nat → Value)
    (hev : ∀ i, i < n → ∀ t I oI C oC D ys m₂ h tk E' (Q' : Value → Shared → Prop), NsObj oC m₂ → m₂ x = some (.int (a + (i : Int)) t) → Fr h₀ L h m → News h₀ L h ((I, oI) :: (C, oC) :: (D, lst ys) :: news) → (∀ tk', Q' (out i) { s with heap := h, toks := tk' }) →
      wpAny (model prog w) A (eval elt (compEnvC scope cl C env)) Q' E' { s with heap := h, toks := tk })
    (fin : Fin ((List.range n).map out) news) : CompRest prog w A h₀ L m env elt x scope cl s (fun _ => True) (fun i v => ∃ t, v = .int (a + (i : Int)) t) Fin n 0 [] news := by
  suffices H : ∀ j i, i + j = n → CompRest prog w A h₀ L m env elt x scope cl s (fun _ => True) (fun i v => ∃ t, v = .int (a + (i : Int)) t) Fin j i ((List.range i).map out) news by
    simpa using H n 0 (by omega)
  intro j
  induction j with
  | zero =>
    intro i hi
    refine CompRest.zero ?_
    obtain rfl : i = n := by omega
    exact fin
  | succ j ih =>
    intro i hi
    refine CompRest.succ fun v I oI C oC D m₂ h tk E' hP hC hx F N off ne => ?_
    obtain ⟨t, rfl⟩ := hP
    refine hev i (by omega) t I oI C oC D _ m₂ h tk E' _ hC hx F N fun tk' => ?_
    refine ⟨h, tk', news, rfl, F, N, off, trivial, ?_⟩
    have := ih (i + 1) (by omega)
    rw [List.range_succ, List.map_append] at this
    exact this
/-- i in stands, in a block -/
theorem in_stands {x sn : Str} {p1 p2 p3 : Pos} {scope : Scope} {cl : List (Str × Addr)} {C D cs : Addr} {oC ocs : Obj} {m₂ : Str → Option Value} {vs : List Value} {ns : List Int} {k : Nat} {i : Int} {t : Tok} {Q : Value → Shared → Prop}
    (N : News h₀ L s.heap news) (hC : (C, oC) ∈ news) (hoC : NsObj oC m₂) (hx : m₂ x = some (.int i t)) (hcs : (cs, ocs) ∈ news) (hds : ocs.data = .cell (some (.ref D))) (hD : (D, listOf vs.toArray k) ∈ news) (hi : IntsAre vs ns) (hsz : ns.length ≤ 1000)
    (hk : (compEnvC scope cl C env).scope.kind = .function) (hl : (compEnvC scope cl C env).kindOf x = some .local) (hd : (x == ("__debug__" : Str)) = false) (hcl : cl.lookup sn = some cs) (hkc : (compEnvC scope cl C env).kindOf sn = some .cell) (hd2 : (sn == ("__debug__" : Str)) = false)
    (hu : A.units < 9000) (h : ∀ tk', Q (.bool (ns.any (· == i))) { s with toks := tk' }) :
    wpAny (model prog w) A (eval (.Compare (.Name x p1) [.In] [.Name sn p2] p3) (compEnvC scope cl C env)) Q E s := by
  refine wpAny_Compare1 (LCgL.ld_own N hC hoC hx (lcf_cell N hcl hcs hds (in_list_ints ⟨_, (N _ hD).1, rfl, _, rfl⟩ hi (h _)) hk hkc hd2) hk hl hd)
end
end Mine
end

section
open PySem PySem.W PyProof.Rows PySem.Calls
namespace Mine
/-- the law's own statement, its scope, its loop's body: taken out of the given program -/
def lawDef : Stmt := Challenge.pw_fe0018_01.main.body.getLastD (.Pass default)
def lawBody : List Stmt := match lawDef with | .FunctionDef _ _ b _ _ _ _ _ _ _ => b | _ => []
def lawScope : Scope := match lawDef with | .FunctionDef _ _ _ _ _ _ sc _ _ _ => sc | _ => default
def loopStmt : Stmt := lawBody.getD 8 (.Pass default)
def loopBody : List Stmt := match loopStmt with | .For _ _ b _ _ => b | _ => []
def loopIf : Stmt := loopBody.getD 3 (.Pass default)
/-- the law's frame at a turn -/
abbrev lawM (M TL TM R : Addr) (now turn : Int) (tknow tkturn : Tok) (u : Str → Option Value) : Str → Option Value := fun y => if y = Str.ofString "manager" then some (.ref M) else if y = Str.ofString "tasks" then some (.ref TL) else if y = Str.ofString "times" then some (.ref TM) else if y = Str.ofString "rows" then some (.ref R) else if y = Str.ofString "now" then some (.int now tknow) else if y = Str.ofString "turn" then some (.int turn tkturn) else u y
abbrev lawEnv (L fa : Addr) (cdv : Value) : Env := envOfC (Str.ofString "law") lawScope L fa cdv
theorem fr_of {h₀ h : Heap} {L : Addr} {m m' : Str → Option Value} (F : Fr h₀ L h m) (e : m = m') : Fr h₀ L h m' := e ▸ F
theorem pinM {m : Str → Option Value} {M TL TM R : Addr} {now turn : Int} {t1 t2 : Tok} (h1 : m (Str.ofString "manager") = some (.ref M)) (h2 : m (Str.ofString "tasks") = some (.ref TL)) (h3 : m (Str.ofString "times") = some (.ref TM)) (h4 : m (Str.ofString "rows") = some (.ref R)) (h5 : m (Str.ofString "now") = some (.int now t1)) (h6 : m (Str.ofString "turn") = some (.int turn t2)) : m = lawM M TL TM R now turn t1 t2 m := by
  funext y
  unfold lawM
  by_cases c1 : y = Str.ofString "manager"
  · rw [if_pos c1, c1]; exact h1
  rw [if_neg c1]
  by_cases c2 : y = Str.ofString "tasks"
  · rw [if_pos c2, c2]; exact h2
  rw [if_neg c2]
  by_cases c3 : y = Str.ofString "times"
  · rw [if_pos c3, c3]; exact h3
  rw [if_neg c3]
  by_cases c4 : y = Str.ofString "rows"
  · rw [if_pos c4, c4]; exact h4
  rw [if_neg c4]
  by_cases c5 : y = Str.ofString "now"
  · rw [if_pos c5, c5]; exact h5
  rw [if_neg c5]
  by_cases c6 : y = Str.ofString "turn"
  · rw [if_pos c6, c6]; exact h6
  rw [if_neg c6]
end Mine
end

section
open PySem PySem.W PyProof.Rows PySem.Calls
namespace Mine
local macro_rules | `(tactic| walk_at "idle line 0") => `(tactic| fail "idle")
local macro_rules | `(tactic| walk_at "idle line 1") => `(tactic| fail "idle")
local macro_rules | `(tactic| k_room) => `(tactic| ((try simp only [depth_mark, depth_under_make, depth_under_kw, depth_in1, depth_deeper, depth_caller, recursionLimit]); omega))
local macro_rules | `(tactic| k_units) => `(tactic| ((try simp only [cLine, units_in1, units_deeper, Around.mark_units, units_caller]); omega))
local macro_rules | `(tactic| walk_at "binaryOp Add ref ref") => `(tactic| (k_here; (with_reducible show wpAny _ _ (binaryOp _ (Value.ref _) (Value.ref _)) _ _ _); refine stop_of ?_))
local macro_rules | `(tactic| walk_at "call ref") => `(tactic| (k_here; (with_reducible show wpAny _ _ (call (Value.ref 255) _) _ _ _); refine stop_of ?_))
local macro_rules | `(tactic| walk_at "eval ListComp") => `(tactic| (k_here; (with_reducible show wpAny _ _ (eval (PySem.Expr.ListComp (PySem.Expr.Name _ _) _ _ _) _) _ _ _); refine stop_of ?_))
set_option maxRecDepth 100000 in
set_option maxHeartbeats 8000000 in
theorem binst00 {w : World} {s s₀ : Shared} {h₀ : Heap} {L fa : Addr} {cdv : Value} {mg mb : Str → Option Value} {u : Str → Option Value} {Q : Flow → Shared → Prop} {E : Value → Shared → Prop} {mrest : List (Addr × Obj)} {P : List (Addr × Obj) → Prop}
  {M TL TM R : Addr} {now turn x W : Int} {tknow tkturn tkkd tkx tkk tW : Tok} {rs : List Row3} {ock ocs : Obj} {vs : Option Value} {nR nM : Nat} {T0 T1 T2 : Addr} {u0 u1 u2 : Value}
  (X : (hd.heap_39 w.params).In h₀) (T : T18 s₀ mg mb h₀)
  (F : Fr h₀ L s.heap (fun y => if y = Str.ofString "x" then some (.int x tkx) else if y = Str.ofString "kind" then some (.int 0 tkkd) else lawM M TL TM R now turn tknow tkturn u y))
  (h3 : rs.length ≤ 4) (hrs : ∀ r ∈ rs, (r.q, r.obj) ∈ mrest)
  (dk : ock.data = .cell (some (.int 0 tkk)))
  (e1 : @Ne Nat R TM) (e2 : @Ne Nat TL TM) (e3 : @Ne Nat (L + 1 + 1) TM) (e4 : @Ne Nat (L + 1) TM)
  (N : News h₀ L s.heap ((R, PySem.W.listOf (rrefs rs) nR) :: (TM, PySem.W.listOf #[u0, u1, u2] nM) :: (TL, listOf #[.ref T0, .ref T1, .ref T2] 0) :: (L + 1 + 1, ocs) :: (L + 1, ock) :: mrest))
  (hcall : ∀ (s' : Shared) (m' : Str → Option Value) (lead : List (Addr × Obj)) (tkh tkx' : Tok) (Q' : Value → Shared → Prop) (E' : Value → Shared → Prop), (∀ p ∈ lead, p.1 ∈ [R, TM, TL, L + 1 + 1, L + 1]) → (TM, PySem.W.listOf #[u0, u1, u2] nM) ∈ lead → Below callerA h₀ [] h₀ → Fr h₀ L s'.heap m' → News h₀ L s'.heap (lead ++ mrest) →
    (∀ (mrest' : List (Addr × Obj)) (h' : Heap) (tk' : Tok), P mrest' → OwnOff mrest' [TM] → (∀ r ∈ rs, (r.q, r.obj) ∈ mrest') → Fr h₀ L h' m' → News h₀ L h' (lead ++ mrest') → Q' (.bool true) { s' with heap := h', toks := tk' }) →
    wpAny (model Challenge.rw_fe0018_01.row.prog w) (callerA.deeper (lawEnv L fa cdv)) (call (.ref 255) [.ref T0, .int 0 tkh, .int x tkx']) Q' E' s')
  (hQ : ∀ (mrest' : List (Addr × Obj)) (D D1 D2 : Addr) (o1 o2 : Obj) (r : Row3) (tW' tturn' : Tok) (u' : Str → Option Value) (h' : Heap) (tk' : Tok), P mrest' → r.w = x → r.c = turn → r.k = 0 → Fr h₀ L h' (lawM M TL TM D now (turn + 1) tknow tturn' u') →
     News h₀ L h' ((D, PySem.W.listOf (((rs.filter fun r => r.k != 0).map fun (e : Row3) => Value.ref e.q) ++ [Value.ref r.q]).toArray 0) :: (D2, o2) :: (r.q, r.obj) :: (D1, o1) :: (R, PySem.W.listOf (rrefs rs) nR) :: (TM, PySem.W.listOf #[.int (x) tW', u1, u2] nM) :: (TL, PySem.W.listOf #[.ref T0, .ref T1, .ref T2] 0) :: (L + 1 + 1, ocs) :: (L + 1, ock) :: mrest') →
     (∀ p ∈ (D2, o2) :: (r.q, r.obj) :: (D1, o1) :: (R, PySem.W.listOf (rrefs rs) nR) :: (TM, PySem.W.listOf #[.int (x) tW', u1, u2] nM) :: (TL, PySem.W.listOf #[.ref T0, .ref T1, .ref T2] 0) :: (L + 1 + 1, ocs) :: (L + 1, ock) :: mrest', p.1 < D) →
     (∀ p ∈ (R, PySem.W.listOf (rrefs rs) nR) :: (TM, PySem.W.listOf #[.int (x) tW', u1, u2] nM) :: (TL, PySem.W.listOf #[.ref T0, .ref T1, .ref T2] 0) :: (L + 1 + 1, ocs) :: (L + 1, ock) :: mrest', p.1 < r.q) → (∀ r ∈ rs, (r.q, r.obj) ∈ mrest') → Q .next { s with heap := h', toks := tk' })
  (B : Below callerA h₀ [] h₀)
  : wpAny (model Challenge.rw_fe0018_01.row.prog w) (callerA.deeper (lawEnv L fa cdv)) (exec loopIf (lawEnv L fa cdv)) Q E s := by
  revert X; k_fill; intro X
  dsimp only [loopIf, loopBody, loopStmt, lawEnv, lawScope, lawBody, lawDef, Challenge.pw_fe0018_01, List.getLastD, List.getLast?, List.getLast, List.getD, List.getElem?_cons_succ, List.getElem?_cons_zero, Option.getD, List.drop]
  try k_fold
  k_steps
  unfold Stop
  (rename Fr _ _ _ _ => F₅); (rename News _ _ _ _ => N₅)
  refine hcall _ _ [_, _, _, _, _] _ _ _ _ (fun p hp => ?_) (by k_mem) B F₅ N₅ fun mrest' h1 tk1 hP hoff hrs1 F₆ N₆ => ?_
  · simp only [List.mem_cons, List.not_mem_nil, or_false] at hp ⊢
    rcases hp with rfl | rfl | rfl | rfl | rfl <;> simp
  simp only [List.cons_append, List.nil_append] at N₆
  clear F₅ N₅ hcall
  k_steps
  unfold Stop
  (rename Fr _ _ _ _ => F₇); (rename News _ _ _ _ => N₇)
  refine keep_rule (cl := [(Str.ofString "k", L + 1)]) F₇ N₇ rfl rfl (by k_mem) (fun r hr => List.mem_append_right [_, _, _, _, _] (hrs1 r hr)) h3 (by k_mem) dk rfl rfl rfl (by decide) rfl (by decide) rfl (by decide) rfl rfl (fun _ => rfl) (fun _ => rfl) (fun _ => rfl) (by decide) (by decide) fun D1 h2 tk2 F₈ N₈ off8 => ?_
  clear F₇ N₇
  k_steps
  unfold Stop
  (rename Fr _ _ _ _ => F₉); (rename News _ _ _ _ => N₉); (rename _ ∧ _ => lz); clear lz; (rename _ ∧ _ => lq)
  refine kmk_add_lit (its := rrefs (rs.filter fun r => r.k != 0)) F₉ N₉ ⟨_, (N₉ (D1, _) (by k_mem)).1, rfl, _, rfl⟩ ⟨_, (N₉ _ (.head _)).1, rfl, _, rfl⟩ rfl (fun D h3' FA NA lt => ?_) ?_
  rotate_left
  · have : (rs.filter fun r => r.k != 0).length ≤ rs.length := List.length_filter_le ..
    simp only [rrefs, List.length_map, List.length_cons, List.length_nil, sizeLine_eq]; omega
  clear F₉ N₉
  k_steps
  (rename Fr _ _ _ _ => FB); (rename News _ _ _ _ => NB)
  refine hQ mrest' D D1 _ _ _ ⟨_, _, _, _, _, _, _⟩ _ _ _ _ _ hP rfl rfl rfl (fr_of FB (pinM (by exact rfl) (by exact rfl) (by exact rfl) (by exact rfl) (by exact rfl) (by exact rfl))) NB lt ?lq hrs1
  case lq =>
    intro p hp
    obtain ⟨_, q1, q2, q3, q4, q5, q6⟩ := lq
    simp only [List.mem_cons] at hp
    rcases hp with rfl | rfl | rfl | rfl | rfl | hp
    · exact q1
    · exact q2
    · exact q3
    · exact q4
    · exact q5
    · exact ktn_ltOf q6 p hp
set_option maxRecDepth 100000 in
set_option maxHeartbeats 8000000 in
theorem binst01 {w : World} {s s₀ : Shared} {h₀ : Heap} {L fa : Addr} {cdv : Value} {mg mb : Str → Option Value} {u : Str → Option Value} {Q : Flow → Shared → Prop} {E : Value → Shared → Prop} {mrest : List (Addr × Obj)} {P : List (Addr × Obj) → Prop}
  {M TL TM R : Addr} {now turn x W : Int} {tknow tkturn tkkd tkx tkk tW : Tok} {rs : List Row3} {ock ocs : Obj} {vs : Option Value} {nR nM : Nat} {T0 T1 T2 : Addr} {u0 u1 u2 : Value}
  (X : (hd.heap_39 w.params).In h₀) (T : T18 s₀ mg mb h₀)
  (F : Fr h₀ L s.heap (fun y => if y = Str.ofString "x" then some (.int x tkx) else if y = Str.ofString "kind" then some (.int 0 tkkd) else lawM M TL TM R now turn tknow tkturn u y))
  (h3 : rs.length ≤ 4) (hrs : ∀ r ∈ rs, (r.q, r.obj) ∈ mrest)
  (dk : ock.data = .cell (some (.int 1 tkk)))
  (e1 : @Ne Nat R TM) (e2 : @Ne Nat TL TM) (e3 : @Ne Nat (L + 1 + 1) TM) (e4 : @Ne Nat (L + 1) TM)
  (N : News h₀ L s.heap ((R, PySem.W.listOf (rrefs rs) nR) :: (TM, PySem.W.listOf #[u0, u1, u2] nM) :: (TL, listOf #[.ref T0, .ref T1, .ref T2] 0) :: (L + 1 + 1, ocs) :: (L + 1, ock) :: mrest))
  (hcall : ∀ (s' : Shared) (m' : Str → Option Value) (lead : List (Addr × Obj)) (tkh tkx' : Tok) (Q' : Value → Shared → Prop) (E' : Value → Shared → Prop), (∀ p ∈ lead, p.1 ∈ [R, TM, TL, L + 1 + 1, L + 1]) → (TM, PySem.W.listOf #[u0, u1, u2] nM) ∈ lead → Below callerA h₀ [] h₀ → Fr h₀ L s'.heap m' → News h₀ L s'.heap (lead ++ mrest) →
    (∀ (mrest' : List (Addr × Obj)) (h' : Heap) (tk' : Tok), P mrest' → OwnOff mrest' [TM] → (∀ r ∈ rs, (r.q, r.obj) ∈ mrest') → Fr h₀ L h' m' → News h₀ L h' (lead ++ mrest') → Q' (.bool true) { s' with heap := h', toks := tk' }) →
    wpAny (model Challenge.rw_fe0018_01.row.prog w) (callerA.deeper (lawEnv L fa cdv)) (call (.ref 255) [.ref T1, .int 0 tkh, .int x tkx']) Q' E' s')
  (hQ : ∀ (mrest' : List (Addr × Obj)) (D D1 D2 : Addr) (o1 o2 : Obj) (r : Row3) (tW' tturn' : Tok) (u' : Str → Option Value) (h' : Heap) (tk' : Tok), P mrest' → r.w = x → r.c = turn → r.k = 1 → Fr h₀ L h' (lawM M TL TM D now (turn + 1) tknow tturn' u') →
     News h₀ L h' ((D, PySem.W.listOf (((rs.filter fun r => r.k != 1).map fun (e : Row3) => Value.ref e.q) ++ [Value.ref r.q]).toArray 0) :: (D2, o2) :: (r.q, r.obj) :: (D1, o1) :: (R, PySem.W.listOf (rrefs rs) nR) :: (TM, PySem.W.listOf #[u0, .int (x) tW', u2] nM) :: (TL, PySem.W.listOf #[.ref T0, .ref T1, .ref T2] 0) :: (L + 1 + 1, ocs) :: (L + 1, ock) :: mrest') →
     (∀ p ∈ (D2, o2) :: (r.q, r.obj) :: (D1, o1) :: (R, PySem.W.listOf (rrefs rs) nR) :: (TM, PySem.W.listOf #[u0, .int (x) tW', u2] nM) :: (TL, PySem.W.listOf #[.ref T0, .ref T1, .ref T2] 0) :: (L + 1 + 1, ocs) :: (L + 1, ock) :: mrest', p.1 < D) →
     (∀ p ∈ (R, PySem.W.listOf (rrefs rs) nR) :: (TM, PySem.W.listOf #[u0, .int (x) tW', u2] nM) :: (TL, PySem.W.listOf #[.ref T0, .ref T1, .ref T2] 0) :: (L + 1 + 1, ocs) :: (L + 1, ock) :: mrest', p.1 < r.q) → (∀ r ∈ rs, (r.q, r.obj) ∈ mrest') → Q .next { s with heap := h', toks := tk' })
  (B : Below callerA h₀ [] h₀)
  : wpAny (model Challenge.rw_fe0018_01.row.prog w) (callerA.deeper (lawEnv L fa cdv)) (exec loopIf (lawEnv L fa cdv)) Q E s := by
  revert X; k_fill; intro X
  dsimp only [loopIf, loopBody, loopStmt, lawEnv, lawScope, lawBody, lawDef, Challenge.pw_fe0018_01, List.getLastD, List.getLast?, List.getLast, List.getD, List.getElem?_cons_succ, List.getElem?_cons_zero, Option.getD, List.drop]
  try k_fold
  k_steps
  unfold Stop
  (rename Fr _ _ _ _ => F₅); (rename News _ _ _ _ => N₅)
  refine hcall _ _ [_, _, _, _, _] _ _ _ _ (fun p hp => ?_) (by k_mem) B F₅ N₅ fun mrest' h1 tk1 hP hoff hrs1 F₆ N₆ => ?_
  · simp only [List.mem_cons, List.not_mem_nil, or_false] at hp ⊢
    rcases hp with rfl | rfl | rfl | rfl | rfl <;> simp
  simp only [List.cons_append, List.nil_append] at N₆
  clear F₅ N₅ hcall
  k_steps
  unfold Stop
  (rename Fr _ _ _ _ => F₇); (rename News _ _ _ _ => N₇)
  refine keep_rule (cl := [(Str.ofString "k", L + 1)]) F₇ N₇ rfl rfl (by k_mem) (fun r hr => List.mem_append_right [_, _, _, _, _] (hrs1 r hr)) h3 (by k_mem) dk rfl rfl rfl (by decide) rfl (by decide) rfl (by decide) rfl rfl (fun _ => rfl) (fun _ => rfl) (fun _ => rfl) (by decide) (by decide) fun D1 h2 tk2 F₈ N₈ off8 => ?_
  clear F₇ N₇
  k_steps
  unfold Stop
  (rename Fr _ _ _ _ => F₉); (rename News _ _ _ _ => N₉); (rename _ ∧ _ => lz); clear lz; (rename _ ∧ _ => lq)
  refine kmk_add_lit (its := rrefs (rs.filter fun r => r.k != 1)) F₉ N₉ ⟨_, (N₉ (D1, _) (by k_mem)).1, rfl, _, rfl⟩ ⟨_, (N₉ _ (.head _)).1, rfl, _, rfl⟩ rfl (fun D h3' FA NA lt => ?_) ?_
  rotate_left
  · have : (rs.filter fun r => r.k != 1).length ≤ rs.length := List.length_filter_le ..
    simp only [rrefs, List.length_map, List.length_cons, List.length_nil, sizeLine_eq]; omega
  clear F₉ N₉
  k_steps
  (rename Fr _ _ _ _ => FB); (rename News _ _ _ _ => NB)
  refine hQ mrest' D D1 _ _ _ ⟨_, _, _, _, _, _, _⟩ _ _ _ _ _ hP rfl rfl rfl (fr_of FB (pinM (by exact rfl) (by exact rfl) (by exact rfl) (by exact rfl) (by exact rfl) (by exact rfl))) NB lt ?lq hrs1
  case lq =>
    intro p hp
    obtain ⟨_, q1, q2, q3, q4, q5, q6⟩ := lq
    simp only [List.mem_cons] at hp
    rcases hp with rfl | rfl | rfl | rfl | rfl | hp
    · exact q1
    · exact q2
    · exact q3
    · exact q4
    · exact q5
    · exact ktn_ltOf q6 p hp
set_option maxRecDepth 100000 in
set_option maxHeartbeats 8000000 in
theorem binst02 {w : World} {s s₀ : Shared} {h₀ : Heap} {L fa : Addr} {cdv : Value} {mg mb : Str → Option Value} {u : Str → Option Value} {Q : Flow → Shared → Prop} {E : Value → Shared → Prop} {mrest : List (Addr × Obj)} {P : List (Addr × Obj) → Prop}
  {M TL TM R : Addr} {now turn x W : Int} {tknow tkturn tkkd tkx tkk tW : Tok} {rs : List Row3} {ock ocs : Obj} {vs : Option Value} {nR nM : Nat} {T0 T1 T2 : Addr} {u0 u1 u2 : Value}
  (X : (hd.heap_39 w.params).In h₀) (T : T18 s₀ mg mb h₀)
  (F : Fr h₀ L s.heap (fun y => if y = Str.ofString "x" then some (.int x tkx) else if y = Str.ofString "kind" then some (.int 0 tkkd) else lawM M TL TM R now turn tknow tkturn u y))
  (h3 : rs.length ≤ 4) (hrs : ∀ r ∈ rs, (r.q, r.obj) ∈ mrest)
  (dk : ock.data = .cell (some (.int 2 tkk)))
  (e1 : @Ne Nat R TM) (e2 : @Ne Nat TL TM) (e3 : @Ne Nat (L + 1 + 1) TM) (e4 : @Ne Nat (L + 1) TM)
  (N : News h₀ L s.heap ((R, PySem.W.listOf (rrefs rs) nR) :: (TM, PySem.W.listOf #[u0, u1, u2] nM) :: (TL, listOf #[.ref T0, .ref T1, .ref T2] 0) :: (L + 1 + 1, ocs) :: (L + 1, ock) :: mrest))
  (hcall : ∀ (s' : Shared) (m' : Str → Option Value) (lead : List (Addr × Obj)) (tkh tkx' : Tok) (Q' : Value → Shared → Prop) (E' : Value → Shared → Prop), (∀ p ∈ lead, p.1 ∈ [R, TM, TL, L + 1 + 1, L + 1]) → (TM, PySem.W.listOf #[u0, u1, u2] nM) ∈ lead → Below callerA h₀ [] h₀ → Fr h₀ L s'.heap m' → News h₀ L s'.heap (lead ++ mrest) →
    (∀ (mrest' : List (Addr × Obj)) (h' : Heap) (tk' : Tok), P mrest' → OwnOff mrest' [TM] → (∀ r ∈ rs, (r.q, r.obj) ∈ mrest') → Fr h₀ L h' m' → News h₀ L h' (lead ++ mrest') → Q' (.bool true) { s' with heap := h', toks := tk' }) →
    wpAny (model Challenge.rw_fe0018_01.row.prog w) (callerA.deeper (lawEnv L fa cdv)) (call (.ref 255) [.ref T2, .int 0 tkh, .int x tkx']) Q' E' s')
  (hQ : ∀ (mrest' : List (Addr × Obj)) (D D1 D2 : Addr) (o1 o2 : Obj) (r : Row3) (tW' tturn' : Tok) (u' : Str → Option Value) (h' : Heap) (tk' : Tok), P mrest' → r.w = x → r.c = turn → r.k = 2 → Fr h₀ L h' (lawM M TL TM D now (turn + 1) tknow tturn' u') →
     News h₀ L h' ((D, PySem.W.listOf (((rs.filter fun r => r.k != 2).map fun (e : Row3) => Value.ref e.q) ++ [Value.ref r.q]).toArray 0) :: (D2, o2) :: (r.q, r.obj) :: (D1, o1) :: (R, PySem.W.listOf (rrefs rs) nR) :: (TM, PySem.W.listOf #[u0, u1, .int (x) tW'] nM) :: (TL, PySem.W.listOf #[.ref T0, .ref T1, .ref T2] 0) :: (L + 1 + 1, ocs) :: (L + 1, ock) :: mrest') →
     (∀ p ∈ (D2, o2) :: (r.q, r.obj) :: (D1, o1) :: (R, PySem.W.listOf (rrefs rs) nR) :: (TM, PySem.W.listOf #[u0, u1, .int (x) tW'] nM) :: (TL, PySem.W.listOf #[.ref T0, .ref T1, .ref T2] 0) :: (L + 1 + 1, ocs) :: (L + 1, ock) :: mrest', p.1 < D) →
     (∀ p ∈ (R, PySem.W.listOf (rrefs rs) nR) :: (TM, PySem.W.listOf #[u0, u1, .int (x) tW'] nM) :: (TL, PySem.W.listOf #[.ref T0, .ref T1, .ref T2] 0) :: (L + 1 + 1, ocs) :: (L + 1, ock) :: mrest', p.1 < r.q) → (∀ r ∈ rs, (r.q, r.obj) ∈ mrest') → Q .next { s with heap := h', toks := tk' })
  (B : Below callerA h₀ [] h₀)
  : wpAny (model Challenge.rw_fe0018_01.row.prog w) (callerA.deeper (lawEnv L fa cdv)) (exec loopIf (lawEnv L fa cdv)) Q E s := by
  revert X; k_fill; intro X
  dsimp only [loopIf, loopBody, loopStmt, lawEnv, lawScope, lawBody, lawDef, Challenge.pw_fe0018_01, List.getLastD, List.getLast?, List.getLast, List.getD, List.getElem?_cons_succ, List.getElem?_cons_zero, Option.getD, List.drop]
  try k_fold
  k_steps
  unfold Stop
  (rename Fr _ _ _ _ => F₅); (rename News _ _ _ _ => N₅)
  refine hcall _ _ [_, _, _, _, _] _ _ _ _ (fun p hp => ?_) (by k_mem) B F₅ N₅ fun mrest' h1 tk1 hP hoff hrs1 F₆ N₆ => ?_
  · simp only [List.mem_cons, List.not_mem_nil, or_false] at hp ⊢
    rcases hp with rfl | rfl | rfl | rfl | rfl <;> simp
  simp only [List.cons_append, List.nil_append] at N₆
  clear F₅ N₅ hcall
  k_steps
  unfold Stop
  (rename Fr _ _ _ _ => F₇); (rename News _ _ _ _ => N₇)
  refine keep_rule (cl := [(Str.ofString "k", L + 1)]) F₇ N₇ rfl rfl (by k_mem) (fun r hr => List.mem_append_right [_, _, _, _, _] (hrs1 r hr)) h3 (by k_mem) dk rfl rfl rfl (by decide) rfl (by decide) rfl (by decide) rfl rfl (fun _ => rfl) (fun _ => rfl) (fun _ => rfl) (by decide) (by decide) fun D1 h2 tk2 F₈ N₈ off8 => ?_
  clear F₇ N₇
  k_steps
  unfold Stop
  (rename Fr _ _ _ _ => F₉); (rename News _ _ _ _ => N₉); (rename _ ∧ _ => lz); clear lz; (rename _ ∧ _ => lq)
  refine kmk_add_lit (its := rrefs (rs.filter fun r => r.k != 2)) F₉ N₉ ⟨_, (N₉ (D1, _) (by k_mem)).1, rfl, _, rfl⟩ ⟨_, (N₉ _ (.head _)).1, rfl, _, rfl⟩ rfl (fun D h3' FA NA lt => ?_) ?_
  rotate_left
  · have : (rs.filter fun r => r.k != 2).length ≤ rs.length := List.length_filter_le ..
    simp only [rrefs, List.length_map, List.length_cons, List.length_nil, sizeLine_eq]; omega
  clear F₉ N₉
  k_steps
  (rename Fr _ _ _ _ => FB); (rename News _ _ _ _ => NB)
  refine hQ mrest' D D1 _ _ _ ⟨_, _, _, _, _, _, _⟩ _ _ _ _ _ hP rfl rfl rfl (fr_of FB (pinM (by exact rfl) (by exact rfl) (by exact rfl) (by exact rfl) (by exact rfl) (by exact rfl))) NB lt ?lq hrs1
  case lq =>
    intro p hp
    obtain ⟨_, q1, q2, q3, q4, q5, q6⟩ := lq
    simp only [List.mem_cons] at hp
    rcases hp with rfl | rfl | rfl | rfl | rfl | hp
    · exact q1
    · exact q2
    · exact q3
    · exact q4
    · exact q5
    · exact ktn_ltOf q6 p hp
end Mine
end

section
open PySem PySem.W PyProof.Rows PySem.Calls
namespace Mine
local macro_rules | `(tactic| walk_at "idle line 0") => `(tactic| fail "idle")
local macro_rules | `(tactic| walk_at "idle line 1") => `(tactic| fail "idle")
local macro_rules | `(tactic| walk_at "idle line 2") => `(tactic| fail "idle")
local macro_rules | `(tactic| walk_at "idle line 3") => `(tactic| fail "idle")
local macro_rules | `(tactic| walk_at "idle line 4") => `(tactic| fail "idle")
local macro_rules | `(tactic| k_room) => `(tactic| ((try simp only [depth_mark, depth_under_make, depth_under_kw, depth_in1, depth_deeper, depth_caller, recursionLimit]); omega))
local macro_rules | `(tactic| k_units) => `(tactic| ((try simp only [cLine, units_in1, units_deeper, Around.mark_units, units_caller]); omega))
local macro_rules | `(tactic| walk_at "binaryOp Add ref ref") => `(tactic| (k_here; (with_reducible show wpAny _ _ (binaryOp _ (Value.ref _) (Value.ref _)) _ _ _); refine stop_of ?_))
local macro_rules | `(tactic| walk_at "call ref") => `(tactic| (k_here; (with_reducible show wpAny _ _ (call (Value.ref 255) _) _ _ _); refine stop_of ?_))
local macro_rules | `(tactic| walk_at "eval ListComp") => `(tactic| (k_here; (with_reducible show wpAny _ _ (eval (PySem.Expr.ListComp (PySem.Expr.Name _ _) _ _ _) _) _ _ _); refine stop_of ?_))
set_option maxRecDepth 100000 in
set_option maxHeartbeats 8000000 in
theorem binst10 {w : World} {s s₀ : Shared} {h₀ : Heap} {L fa : Addr} {cdv : Value} {mg mb : Str → Option Value} {u : Str → Option Value} {Q : Flow → Shared → Prop} {E : Value → Shared → Prop} {mrest : List (Addr × Obj)} {P : List (Addr × Obj) → Prop}
  {M TL TM R : Addr} {now turn x W : Int} {tknow tkturn tkkd tkx tkk tW : Tok} {rs : List Row3} {ock ocs : Obj} {vs : Option Value} {nR nM : Nat} {T0 T1 T2 : Addr} {u0 u1 u2 : Value}
  (X : (hd.heap_39 w.params).In h₀) (T : T18 s₀ mg mb h₀)
  (F : Fr h₀ L s.heap (fun y => if y = Str.ofString "x" then some (.int x tkx) else if y = Str.ofString "kind" then some (.int 1 tkkd) else lawM M TL TM R now turn tknow tkturn u y))
  (h3 : rs.length ≤ 4) (hrs : ∀ r ∈ rs, (r.q, r.obj) ∈ mrest)
  (dk : ock.data = .cell (some (.int 0 tkk)))
  (e1 : @Ne Nat R TM) (e2 : @Ne Nat TL TM) (e3 : @Ne Nat (L + 1 + 1) TM) (e4 : @Ne Nat (L + 1) TM)
  (N : News h₀ L s.heap ((R, PySem.W.listOf (rrefs rs) nR) :: (TM, PySem.W.listOf #[u0, u1, u2] nM) :: (TL, listOf #[.ref T0, .ref T1, .ref T2] 0) :: (L + 1 + 1, ocs) :: (L + 1, ock) :: mrest))
  (hcall : ∀ (s' : Shared) (m' : Str → Option Value) (lead : List (Addr × Obj)) (tkh tkx' : Tok) (Q' : Value → Shared → Prop) (E' : Value → Shared → Prop), (∀ p ∈ lead, p.1 ∈ [R, TM, TL, L + 1 + 1, L + 1]) → (TM, PySem.W.listOf #[u0, u1, u2] nM) ∈ lead → Below callerA h₀ [] h₀ → Fr h₀ L s'.heap m' → News h₀ L s'.heap (lead ++ mrest) →
    (∀ (mrest' : List (Addr × Obj)) (h' : Heap) (tk' : Tok), P mrest' → OwnOff mrest' [TM] → (∀ r ∈ rs, (r.q, r.obj) ∈ mrest') → Fr h₀ L h' m' → News h₀ L h' (lead ++ mrest') → Q' (.bool true) { s' with heap := h', toks := tk' }) →
    wpAny (model Challenge.rw_fe0018_01.row.prog w) (callerA.deeper (lawEnv L fa cdv)) (call (.ref 255) [.ref T0, .int 1 tkh, .int x tkx']) Q' E' s')
  (hQ : ∀ (mrest' : List (Addr × Obj)) (D D1 D2 : Addr) (o1 o2 : Obj) (r : Row3) (tW' tturn' : Tok) (u' : Str → Option Value) (h' : Heap) (tk' : Tok), P mrest' → r.w = now + x → r.c = turn → r.k = 0 → Fr h₀ L h' (lawM M TL TM D now (turn + 1) tknow tturn' u') →
     News h₀ L h' ((D, PySem.W.listOf (((rs.filter fun r => r.k != 0).map fun (e : Row3) => Value.ref e.q) ++ [Value.ref r.q]).toArray 0) :: (D2, o2) :: (r.q, r.obj) :: (D1, o1) :: (R, PySem.W.listOf (rrefs rs) nR) :: (TM, PySem.W.listOf #[.int (now + x) tW', u1, u2] nM) :: (TL, PySem.W.listOf #[.ref T0, .ref T1, .ref T2] 0) :: (L + 1 + 1, ocs) :: (L + 1, ock) :: mrest') →
     (∀ p ∈ (D2, o2) :: (r.q, r.obj) :: (D1, o1) :: (R, PySem.W.listOf (rrefs rs) nR) :: (TM, PySem.W.listOf #[.int (now + x) tW', u1, u2] nM) :: (TL, PySem.W.listOf #[.ref T0, .ref T1, .ref T2] 0) :: (L + 1 + 1, ocs) :: (L + 1, ock) :: mrest', p.1 < D) →
     (∀ p ∈ (R, PySem.W.listOf (rrefs rs) nR) :: (TM, PySem.W.listOf #[.int (now + x) tW', u1, u2] nM) :: (TL, PySem.W.listOf #[.ref T0, .ref T1, .ref T2] 0) :: (L + 1 + 1, ocs) :: (L + 1, ock) :: mrest', p.1 < r.q) → (∀ r ∈ rs, (r.q, r.obj) ∈ mrest') → Q .next { s with heap := h', toks := tk' })
  (B : Below callerA h₀ [] h₀)
  : wpAny (model Challenge.rw_fe0018_01.row.prog w) (callerA.deeper (lawEnv L fa cdv)) (exec loopIf (lawEnv L fa cdv)) Q E s := by
  revert X; k_fill; intro X
  dsimp only [loopIf, loopBody, loopStmt, lawEnv, lawScope, lawBody, lawDef, Challenge.pw_fe0018_01, List.getLastD, List.getLast?, List.getLast, List.getD, List.getElem?_cons_succ, List.getElem?_cons_zero, Option.getD, List.drop]
  try k_fold
  k_steps
  unfold Stop
  (rename Fr _ _ _ _ => F₅); (rename News _ _ _ _ => N₅)
  refine hcall _ _ [_, _, _, _, _] _ _ _ _ (fun p hp => ?_) (by k_mem) B F₅ N₅ fun mrest' h1 tk1 hP hoff hrs1 F₆ N₆ => ?_
  · simp only [List.mem_cons, List.not_mem_nil, or_false] at hp ⊢
    rcases hp with rfl | rfl | rfl | rfl | rfl <;> simp
  simp only [List.cons_append, List.nil_append] at N₆
  clear F₅ N₅ hcall
  k_steps
  unfold Stop
  (rename Fr _ _ _ _ => F₇); (rename News _ _ _ _ => N₇)
  refine keep_rule (cl := [(Str.ofString "k", L + 1)]) F₇ N₇ rfl rfl (by k_mem) (fun r hr => List.mem_append_right [_, _, _, _, _] (hrs1 r hr)) h3 (by k_mem) dk rfl rfl rfl (by decide) rfl (by decide) rfl (by decide) rfl rfl (fun _ => rfl) (fun _ => rfl) (fun _ => rfl) (by decide) (by decide) fun D1 h2 tk2 F₈ N₈ off8 => ?_
  clear F₇ N₇
  k_steps
  unfold Stop
  (rename Fr _ _ _ _ => F₉); (rename News _ _ _ _ => N₉); (rename _ ∧ _ => lz); clear lz; (rename _ ∧ _ => lq)
  refine kmk_add_lit (its := rrefs (rs.filter fun r => r.k != 0)) F₉ N₉ ⟨_, (N₉ (D1, _) (by k_mem)).1, rfl, _, rfl⟩ ⟨_, (N₉ _ (.head _)).1, rfl, _, rfl⟩ rfl (fun D h3' FA NA lt => ?_) ?_
  rotate_left
  · have : (rs.filter fun r => r.k != 0).length ≤ rs.length := List.length_filter_le ..
    simp only [rrefs, List.length_map, List.length_cons, List.length_nil, sizeLine_eq]; omega
  clear F₉ N₉
  k_steps
  (rename Fr _ _ _ _ => FB); (rename News _ _ _ _ => NB)
  refine hQ mrest' D D1 _ _ _ ⟨_, _, _, _, _, _, _⟩ _ _ _ _ _ hP rfl rfl rfl (fr_of FB (pinM (by exact rfl) (by exact rfl) (by exact rfl) (by exact rfl) (by exact rfl) (by exact rfl))) NB lt ?lq hrs1
  case lq =>
    intro p hp
    obtain ⟨_, q1, q2, q3, q4, q5, q6⟩ := lq
    simp only [List.mem_cons] at hp
    rcases hp with rfl | rfl | rfl | rfl | rfl | hp
    · exact q1
    · exact q2
    · exact q3
    · exact q4
    · exact q5
    · exact ktn_ltOf q6 p hp
set_option maxRecDepth 100000 in
set_option maxHeartbeats 8000000 in
theorem binst11 {w : World} {s s₀ : Shared} {h₀ : Heap} {L fa : Addr} {cdv : Value} {mg mb : Str → Option Value} {u : Str → Option Value} {Q : Flow → Shared → Prop} {E : Value → Shared → Prop} {mrest : List (Addr × Obj)} {P : List (Addr × Obj) → Prop}
  {M TL TM R : Addr} {now turn x W : Int} {tknow tkturn tkkd tkx tkk tW : Tok} {rs : List Row3} {ock ocs : Obj} {vs : Option Value} {nR nM : Nat} {T0 T1 T2 : Addr} {u0 u1 u2 : Value}
  (X : (hd.heap_39 w.params).In h₀) (T : T18 s₀ mg mb h₀)
  (F : Fr h₀ L s.heap (fun y => if y = Str.ofString "x" then some (.int x tkx) else if y = Str.ofString "kind" then some (.int 1 tkkd) else lawM M TL TM R now turn tknow tkturn u y))
  (h3 : rs.length ≤ 4) (hrs : ∀ r ∈ rs, (r.q, r.obj) ∈ mrest)
  (dk : ock.data = .cell (some (.int 1 tkk)))
  (e1 : @Ne Nat R TM) (e2 : @Ne Nat TL TM) (e3 : @Ne Nat (L + 1 + 1) TM) (e4 : @Ne Nat (L + 1) TM)
  (N : News h₀ L s.heap ((R, PySem.W.listOf (rrefs rs) nR) :: (TM, PySem.W.listOf #[u0, u1, u2] nM) :: (TL, listOf #[.ref T0, .ref T1, .ref T2] 0) :: (L + 1 + 1, ocs) :: (L + 1, ock) :: mrest))
  (hcall : ∀ (s' : Shared) (m' : Str → Option Value) (lead : List (Addr × Obj)) (tkh tkx' : Tok) (Q' : Value → Shared → Prop) (E' : Value → Shared → Prop), (∀ p ∈ lead, p.1 ∈ [R, TM, TL, L + 1 + 1, L + 1]) → (TM, PySem.W.listOf #[u0, u1, u2] nM) ∈ lead → Below callerA h₀ [] h₀ → Fr h₀ L s'.heap m' → News h₀ L s'.heap (lead ++ mrest) →
    (∀ (mrest' : List (Addr × Obj)) (h' : Heap) (tk' : Tok), P mrest' → OwnOff mrest' [TM] → (∀ r ∈ rs, (r.q, r.obj) ∈ mrest') → Fr h₀ L h' m' → News h₀ L h' (lead ++ mrest') → Q' (.bool true) { s' with heap := h', toks := tk' }) →
    wpAny (model Challenge.rw_fe0018_01.row.prog w) (callerA.deeper (lawEnv L fa cdv)) (call (.ref 255) [.ref T1, .int 1 tkh, .int x tkx']) Q' E' s')
  (hQ : ∀ (mrest' : List (Addr × Obj)) (D D1 D2 : Addr) (o1 o2 : Obj) (r : Row3) (tW' tturn' : Tok) (u' : Str → Option Value) (h' : Heap) (tk' : Tok), P mrest' → r.w = now + x → r.c = turn → r.k = 1 → Fr h₀ L h' (lawM M TL TM D now (turn + 1) tknow tturn' u') →
     News h₀ L h' ((D, PySem.W.listOf (((rs.filter fun r => r.k != 1).map fun (e : Row3) => Value.ref e.q) ++ [Value.ref r.q]).toArray 0) :: (D2, o2) :: (r.q, r.obj) :: (D1, o1) :: (R, PySem.W.listOf (rrefs rs) nR) :: (TM, PySem.W.listOf #[u0, .int (now + x) tW', u2] nM) :: (TL, PySem.W.listOf #[.ref T0, .ref T1, .ref T2] 0) :: (L + 1 + 1, ocs) :: (L + 1, ock) :: mrest') →
     (∀ p ∈ (D2, o2) :: (r.q, r.obj) :: (D1, o1) :: (R, PySem.W.listOf (rrefs rs) nR) :: (TM, PySem.W.listOf #[u0, .int (now + x) tW', u2] nM) :: (TL, PySem.W.listOf #[.ref T0, .ref T1, .ref T2] 0) :: (L + 1 + 1, ocs) :: (L + 1, ock) :: mrest', p.1 < D) →
     (∀ p ∈ (R, PySem.W.listOf (rrefs rs) nR) :: (TM, PySem.W.listOf #[u0, .int (now + x) tW', u2] nM) :: (TL, PySem.W.listOf #[.ref T0, .ref T1, .ref T2] 0) :: (L + 1 + 1, ocs) :: (L + 1, ock) :: mrest', p.1 < r.q) → (∀ r ∈ rs, (r.q, r.obj) ∈ mrest') → Q .next { s with heap := h', toks := tk' })
  (B : Below callerA h₀ [] h₀)
  : wpAny (model Challenge.rw_fe0018_01.row.prog w) (callerA.deeper (lawEnv L fa cdv)) (exec loopIf (lawEnv L fa cdv)) Q E s := by
  revert X; k_fill; intro X
  dsimp only [loopIf, loopBody, loopStmt, lawEnv, lawScope, lawBody, lawDef, Challenge.pw_fe0018_01, List.getLastD, List.getLast?, List.getLast, List.getD, List.getElem?_cons_succ, List.getElem?_cons_zero, Option.getD, List.drop]
  try k_fold
  k_steps
  unfold Stop
  (rename Fr _ _ _ _ => F₅); (rename News _ _ _ _ => N₅)
  refine hcall _ _ [_, _, _, _, _] _ _ _ _ (fun p hp => ?_) (by k_mem) B F₅ N₅ fun mrest' h1 tk1 hP hoff hrs1 F₆ N₆ => ?_
  · simp only [List.mem_cons, List.not_mem_nil, or_false] at hp ⊢
    rcases hp with rfl | rfl | rfl | rfl | rfl <;> simp
  simp only [List.cons_append, List.nil_append] at N₆
  clear F₅ N₅ hcall
  k_steps
  unfold Stop
  (rename Fr _ _ _ _ => F₇); (rename News _ _ _ _ => N₇)
  refine keep_rule (cl := [(Str.ofString "k", L + 1)]) F₇ N₇ rfl rfl (by k_mem) (fun r hr => List.mem_append_right [_, _, _, _, _] (hrs1 r hr)) h3 (by k_mem) dk rfl rfl rfl (by decide) rfl (by decide) rfl (by decide) rfl rfl (fun _ => rfl) (fun _ => rfl) (fun _ => rfl) (by decide) (by decide) fun D1 h2 tk2 F₈ N₈ off8 => ?_
  clear F₇ N₇
  k_steps
  unfold Stop
  (rename Fr _ _ _ _ => F₉); (rename News _ _ _ _ => N₉); (rename _ ∧ _ => lz); clear lz; (rename _ ∧ _ => lq)
  refine kmk_add_lit (its := rrefs (rs.filter fun r => r.k != 1)) F₉ N₉ ⟨_, (N₉ (D1, _) (by k_mem)).1, rfl, _, rfl⟩ ⟨_, (N₉ _ (.head _)).1, rfl, _, rfl⟩ rfl (fun D h3' FA NA lt => ?_) ?_
  rotate_left
  · have : (rs.filter fun r => r.k != 1).length ≤ rs.length := List.length_filter_le ..
    simp only [rrefs, List.length_map, List.length_cons, List.length_nil, sizeLine_eq]; omega
  clear F₉ N₉
  k_steps
  (rename Fr _ _ _ _ => FB); (rename News _ _ _ _ => NB)
  refine hQ mrest' D D1 _ _ _ ⟨_, _, _, _, _, _, _⟩ _ _ _ _ _ hP rfl rfl rfl (fr_of FB (pinM (by exact rfl) (by exact rfl) (by exact rfl) (by exact rfl) (by exact rfl) (by exact rfl))) NB lt ?lq hrs1
  case lq =>
    intro p hp
    obtain ⟨_, q1, q2, q3, q4, q5, q6⟩ := lq
    simp only [List.mem_cons] at hp
    rcases hp with rfl | rfl | rfl | rfl | rfl | hp
    · exact q1
    · exact q2
    · exact q3
    · exact q4
    · exact q5
    · exact ktn_ltOf q6 p hp
set_option maxRecDepth 100000 in
set_option maxHeartbeats 8000000 in
theorem binst12 {w : World} {s s₀ : Shared} {h₀ : Heap} {L fa : Addr} {cdv : Value} {mg mb : Str → Option Value} {u : Str → Option Value} {Q : Flow → Shared → Prop} {E : Value → Shared → Prop} {mrest : List (Addr × Obj)} {P : List (Addr × Obj) → Prop}
  {M TL TM R : Addr} {now turn x W : Int} {tknow tkturn tkkd tkx tkk tW : Tok} {rs : List Row3} {ock ocs : Obj} {vs : Option Value} {nR nM : Nat} {T0 T1 T2 : Addr} {u0 u1 u2 : Value}
  (X : (hd.heap_39 w.params).In h₀) (T : T18 s₀ mg mb h₀)
  (F : Fr h₀ L s.heap (fun y => if y = Str.ofString "x" then some (.int x tkx) else if y = Str.ofString "kind" then some (.int 1 tkkd) else lawM M TL TM R now turn tknow tkturn u y))
  (h3 : rs.length ≤ 4) (hrs : ∀ r ∈ rs, (r.q, r.obj) ∈ mrest)
  (dk : ock.data = .cell (some (.int 2 tkk)))
  (e1 : @Ne Nat R TM) (e2 : @Ne Nat TL TM) (e3 : @Ne Nat (L + 1 + 1) TM) (e4 : @Ne Nat (L + 1) TM)
  (N : News h₀ L s.heap ((R, PySem.W.listOf (rrefs rs) nR) :: (TM, PySem.W.listOf #[u0, u1, u2] nM) :: (TL, listOf #[.ref T0, .ref T1, .ref T2] 0) :: (L + 1 + 1, ocs) :: (L + 1, ock) :: mrest))
  (hcall : ∀ (s' : Shared) (m' : Str → Option Value) (lead : List (Addr × Obj)) (tkh tkx' : Tok) (Q' : Value → Shared → Prop) (E' : Value → Shared → Prop), (∀ p ∈ lead, p.1 ∈ [R, TM, TL, L + 1 + 1, L + 1]) → (TM, PySem.W.listOf #[u0, u1, u2] nM) ∈ lead → Below callerA h₀ [] h₀ → Fr h₀ L s'.heap m' → News h₀ L s'.heap (lead ++ mrest) →
    (∀ (mrest' : List (Addr × Obj)) (h' : Heap) (tk' : Tok), P mrest' → OwnOff mrest' [TM] → (∀ r ∈ rs, (r.q, r.obj) ∈ mrest') → Fr h₀ L h' m' → News h₀ L h' (lead ++ mrest') → Q' (.bool true) { s' with heap := h', toks := tk' }) →
    wpAny (model Challenge.rw_fe0018_01.row.prog w) (callerA.deeper (lawEnv L fa cdv)) (call (.ref 255) [.ref T2, .int 1 tkh, .int x tkx']) Q' E' s')
  (hQ : ∀ (mrest' : List (Addr × Obj)) (D D1 D2 : Addr) (o1 o2 : Obj) (r : Row3) (tW' tturn' : Tok) (u' : Str → Option Value) (h' : Heap) (tk' : Tok), P mrest' → r.w = now + x → r.c = turn → r.k = 2 → Fr h₀ L h' (lawM M TL TM D now (turn + 1) tknow tturn' u') →
     News h₀ L h' ((D, PySem.W.listOf (((rs.filter fun r => r.k != 2).map fun (e : Row3) => Value.ref e.q) ++ [Value.ref r.q]).toArray 0) :: (D2, o2) :: (r.q, r.obj) :: (D1, o1) :: (R, PySem.W.listOf (rrefs rs) nR) :: (TM, PySem.W.listOf #[u0, u1, .int (now + x) tW'] nM) :: (TL, PySem.W.listOf #[.ref T0, .ref T1, .ref T2] 0) :: (L + 1 + 1, ocs) :: (L + 1, ock) :: mrest') →
     (∀ p ∈ (D2, o2) :: (r.q, r.obj) :: (D1, o1) :: (R, PySem.W.listOf (rrefs rs) nR) :: (TM, PySem.W.listOf #[u0, u1, .int (now + x) tW'] nM) :: (TL, PySem.W.listOf #[.ref T0, .ref T1, .ref T2] 0) :: (L + 1 + 1, ocs) :: (L + 1, ock) :: mrest', p.1 < D) →
     (∀ p ∈ (R, PySem.W.listOf (rrefs rs) nR) :: (TM, PySem.W.listOf #[u0, u1, .int (now + x) tW'] nM) :: (TL, PySem.W.listOf #[.ref T0, .ref T1, .ref T2] 0) :: (L + 1 + 1, ocs) :: (L + 1, ock) :: mrest', p.1 < r.q) → (∀ r ∈ rs, (r.q, r.obj) ∈ mrest') → Q .next { s with heap := h', toks := tk' })
  (B : Below callerA h₀ [] h₀)
  : wpAny (model Challenge.rw_fe0018_01.row.prog w) (callerA.deeper (lawEnv L fa cdv)) (exec loopIf (lawEnv L fa cdv)) Q E s := by
  revert X; k_fill; intro X
  dsimp only [loopIf, loopBody, loopStmt, lawEnv, lawScope, lawBody, lawDef, Challenge.pw_fe0018_01, List.getLastD, List.getLast?, List.getLast, List.getD, List.getElem?_cons_succ, List.getElem?_cons_zero, Option.getD, List.drop]
  try k_fold
  k_steps
  unfold Stop
  (rename Fr _ _ _ _ => F₅); (rename News _ _ _ _ => N₅)
  refine hcall _ _ [_, _, _, _, _] _ _ _ _ (fun p hp => ?_) (by k_mem) B F₅ N₅ fun mrest' h1 tk1 hP hoff hrs1 F₆ N₆ => ?_
  · simp only [List.mem_cons, List.not_mem_nil, or_false] at hp ⊢
    rcases hp with rfl | rfl | rfl | rfl | rfl <;> simp
  simp only [List.cons_append, List.nil_append] at N₆
  clear F₅ N₅ hcall
  k_steps
  unfold Stop
  (rename Fr _ _ _ _ => F₇); (rename News _ _ _ _ => N₇)
  refine keep_rule (cl := [(Str.ofString "k", L + 1)]) F₇ N₇ rfl rfl (by k_mem) (fun r hr => List.mem_append_right [_, _, _, _, _] (hrs1 r hr)) h3 (by k_mem) dk rfl rfl rfl (by decide) rfl (by decide) rfl (by decide) rfl rfl (fun _ => rfl) (fun _ => rfl) (fun _ => rfl) (by decide) (by decide) fun D1 h2 tk2 F₈ N₈ off8 => ?_
  clear F₇ N₇
  k_steps
  unfold Stop
  (rename Fr _ _ _ _ => F₉); (rename News _ _ _ _ => N₉); (rename _ ∧ _ => lz); clear lz; (rename _ ∧ _ => lq)
  refine kmk_add_lit (its := rrefs (rs.filter fun r => r.k != 2)) F₉ N₉ ⟨_, (N₉ (D1, _) (by k_mem)).1, rfl, _, rfl⟩ ⟨_, (N₉ _ (.head _)).1, rfl, _, rfl⟩ rfl (fun D h3' FA NA lt => ?_) ?_
  rotate_left
  · have : (rs.filter fun r => r.k != 2).length ≤ rs.length := List.length_filter_le ..
    simp only [rrefs, List.length_map, List.length_cons, List.length_nil, sizeLine_eq]; omega
  clear F₉ N₉
  k_steps
  (rename Fr _ _ _ _ => FB); (rename News _ _ _ _ => NB)
  refine hQ mrest' D D1 _ _ _ ⟨_, _, _, _, _, _, _⟩ _ _ _ _ _ hP rfl rfl rfl (fr_of FB (pinM (by exact rfl) (by exact rfl) (by exact rfl) (by exact rfl) (by exact rfl) (by exact rfl))) NB lt ?lq hrs1
  case lq =>
    intro p hp
    obtain ⟨_, q1, q2, q3, q4, q5, q6⟩ := lq
    simp only [List.mem_cons] at hp
    rcases hp with rfl | rfl | rfl | rfl | rfl | hp
    · exact q1
    · exact q2
    · exact q3
    · exact q4
    · exact q5
    · exact ktn_ltOf q6 p hp
end Mine
end

section
open PySem PySem.W PyProof.Rows PySem.Calls
namespace Mine
local macro_rules | `(tactic| k_room) => `(tactic| ((try simp only [depth_mark, depth_under_make, depth_under_kw, depth_in1, depth_deeper, depth_caller, recursionLimit]); omega))
local macro_rules | `(tactic| k_units) => `(tactic| ((try simp only [cLine, units_in1, units_deeper, Around.mark_units, units_caller]); omega))
local macro_rules | `(tactic| walk_at "binaryOp Add ref ref") => `(tactic| (k_here; (with_reducible show wpAny _ _ (binaryOp _ (Value.ref _) (Value.ref _)) _ _ _); refine stop_of ?_))
local macro_rules | `(tactic| walk_at "call ref") => `(tactic| (k_here; (with_reducible show wpAny _ _ (call (Value.ref 255) _) _ _ _); refine stop_of ?_))
local macro_rules | `(tactic| walk_at "eval ListComp") => `(tactic| (k_here; (with_reducible show wpAny _ _ (eval (PySem.Expr.ListComp (PySem.Expr.Name _ _) _ _ _) _) _ _ _); refine stop_of ?_))
set_option maxRecDepth 100000 in
set_option maxHeartbeats 8000000 in
theorem binst20 {w : World} {s s₀ : Shared} {h₀ : Heap} {L fa : Addr} {cdv : Value} {mg mb : Str → Option Value} {u : Str → Option Value} {Q : Flow → Shared → Prop} {E : Value → Shared → Prop} {mrest : List (Addr × Obj)} {P : List (Addr × Obj) → Prop}
  {M TL TM R : Addr} {now turn x W : Int} {tknow tkturn tkkd tkx tkk tW : Tok} {rs : List Row3} {ock ocs : Obj} {vs : Option Value} {nR nM : Nat} {T0 T1 T2 : Addr} {u0 u1 u2 : Value}
  (X : (hd.heap_39 w.params).In h₀) (T : T18 s₀ mg mb h₀)
  (F : Fr h₀ L s.heap (fun y => if y = Str.ofString "x" then some (.int x tkx) else if y = Str.ofString "kind" then some (.int 2 tkkd) else lawM M TL TM R now turn tknow tkturn u y))
  (h3 : rs.length ≤ 4) (hrs : ∀ r ∈ rs, (r.q, r.obj) ∈ mrest)
  (dk : ock.data = .cell (some (.int 0 tkk)))
  (e1 : @Ne Nat R TM) (e2 : @Ne Nat TL TM) (e3 : @Ne Nat (L + 1 + 1) TM) (e4 : @Ne Nat (L + 1) TM)
  (N : News h₀ L s.heap ((R, PySem.W.listOf (rrefs rs) nR) :: (TM, PySem.W.listOf #[.int W tW, u1, u2] nM) :: (TL, listOf #[.ref T0, .ref T1, .ref T2] 0) :: (L + 1 + 1, ocs) :: (L + 1, ock) :: mrest))
  (hcall : ∀ (s' : Shared) (m' : Str → Option Value) (lead : List (Addr × Obj)) (tkh tkx' : Tok) (Q' : Value → Shared → Prop) (E' : Value → Shared → Prop), (∀ p ∈ lead, p.1 ∈ [R, TM, TL, L + 1 + 1, L + 1]) → (TM, PySem.W.listOf #[.int W tW, u1, u2] nM) ∈ lead → Below callerA h₀ [] h₀ → Fr h₀ L s'.heap m' → News h₀ L s'.heap (lead ++ mrest) →
    (∀ (mrest' : List (Addr × Obj)) (h' : Heap) (tk' : Tok), P mrest' → OwnOff mrest' [TM] → (∀ r ∈ rs, (r.q, r.obj) ∈ mrest') → Fr h₀ L h' m' → News h₀ L h' (lead ++ mrest') → Q' (.bool true) { s' with heap := h', toks := tk' }) →
    wpAny (model Challenge.rw_fe0018_01.row.prog w) (callerA.deeper (lawEnv L fa cdv)) (call (.ref 255) [.ref T0, .int 2 tkh, .int x tkx']) Q' E' s')
  (hQ : ∀ (mrest' : List (Addr × Obj)) (D D1 D2 : Addr) (o1 o2 : Obj) (r : Row3) (tW' tturn' : Tok) (u' : Str → Option Value) (h' : Heap) (tk' : Tok), P mrest' → r.w = W → r.c = turn → r.k = 0 → Fr h₀ L h' (lawM M TL TM D now (turn + 1) tknow tturn' u') →
     News h₀ L h' ((D, PySem.W.listOf (((rs.filter fun r => r.k != 0).map fun (e : Row3) => Value.ref e.q) ++ [Value.ref r.q]).toArray 0) :: (D2, o2) :: (r.q, r.obj) :: (D1, o1) :: (R, PySem.W.listOf (rrefs rs) nR) :: (TM, PySem.W.listOf #[.int (W) tW', u1, u2] nM) :: (TL, PySem.W.listOf #[.ref T0, .ref T1, .ref T2] 0) :: (L + 1 + 1, ocs) :: (L + 1, ock) :: mrest') →
     (∀ p ∈ (D2, o2) :: (r.q, r.obj) :: (D1, o1) :: (R, PySem.W.listOf (rrefs rs) nR) :: (TM, PySem.W.listOf #[.int (W) tW', u1, u2] nM) :: (TL, PySem.W.listOf #[.ref T0, .ref T1, .ref T2] 0) :: (L + 1 + 1, ocs) :: (L + 1, ock) :: mrest', p.1 < D) →
     (∀ p ∈ (R, PySem.W.listOf (rrefs rs) nR) :: (TM, PySem.W.listOf #[.int (W) tW', u1, u2] nM) :: (TL, PySem.W.listOf #[.ref T0, .ref T1, .ref T2] 0) :: (L + 1 + 1, ocs) :: (L + 1, ock) :: mrest', p.1 < r.q) → (∀ r ∈ rs, (r.q, r.obj) ∈ mrest') → Q .next { s with heap := h', toks := tk' })
  (B : Below callerA h₀ [] h₀)
  : wpAny (model Challenge.rw_fe0018_01.row.prog w) (callerA.deeper (lawEnv L fa cdv)) (exec loopIf (lawEnv L fa cdv)) Q E s := by
  revert X; k_fill; intro X
  dsimp only [loopIf, loopBody, loopStmt, lawEnv, lawScope, lawBody, lawDef, Challenge.pw_fe0018_01, List.getLastD, List.getLast?, List.getLast, List.getD, List.getElem?_cons_succ, List.getElem?_cons_zero, Option.getD, List.drop]
  try k_fold
  k_steps
  unfold Stop
  (rename Fr _ _ _ _ => F₅); (rename News _ _ _ _ => N₅)
  refine hcall _ _ [_, _, _, _, _] _ _ _ _ (fun p hp => ?_) (by k_mem) B F₅ N₅ fun mrest' h1 tk1 hP hoff hrs1 F₆ N₆ => ?_
  · simp only [List.mem_cons, List.not_mem_nil, or_false] at hp ⊢
    rcases hp with rfl | rfl | rfl | rfl | rfl <;> simp
  simp only [List.cons_append, List.nil_append] at N₆
  clear F₅ N₅ hcall
  k_steps
  unfold Stop
  (rename Fr _ _ _ _ => F₇); (rename News _ _ _ _ => N₇)
  refine keep_rule (cl := [(Str.ofString "k", L + 1)]) F₇ N₇ rfl rfl (by k_mem) (fun r hr => List.mem_append_right [_, _, _, _, _] (hrs1 r hr)) h3 (by k_mem) dk rfl rfl rfl (by decide) rfl (by decide) rfl (by decide) rfl rfl (fun _ => rfl) (fun _ => rfl) (fun _ => rfl) (by decide) (by decide) fun D1 h2 tk2 F₈ N₈ off8 => ?_
  clear F₇ N₇
  k_steps
  unfold Stop
  (rename Fr _ _ _ _ => F₉); (rename News _ _ _ _ => N₉); (rename _ ∧ _ => lz); clear lz; (rename _ ∧ _ => lq)
  refine kmk_add_lit (its := rrefs (rs.filter fun r => r.k != 0)) F₉ N₉ ⟨_, (N₉ (D1, _) (by k_mem)).1, rfl, _, rfl⟩ ⟨_, (N₉ _ (.head _)).1, rfl, _, rfl⟩ rfl (fun D h3' FA NA lt => ?_) ?_
  rotate_left
  · have : (rs.filter fun r => r.k != 0).length ≤ rs.length := List.length_filter_le ..
    simp only [rrefs, List.length_map, List.length_cons, List.length_nil, sizeLine_eq]; omega
  clear F₉ N₉
  k_steps
  (rename Fr _ _ _ _ => FB); (rename News _ _ _ _ => NB)
  refine hQ mrest' D D1 _ _ _ ⟨_, _, _, _, _, _, _⟩ _ _ _ _ _ hP rfl rfl rfl (fr_of FB (pinM (by exact rfl) (by exact rfl) (by exact rfl) (by exact rfl) (by exact rfl) (by exact rfl))) NB lt ?lq hrs1
  case lq =>
    intro p hp
    obtain ⟨_, q1, q2, q3, q4, q5, q6⟩ := lq
    simp only [List.mem_cons] at hp
    rcases hp with rfl | rfl | rfl | rfl | rfl | hp
    · exact q1
    · exact q2
    · exact q3
    · exact q4
    · exact q5
    · exact ktn_ltOf q6 p hp
set_option maxRecDepth 100000 in
set_option maxHeartbeats 8000000 in
theorem binst21 {w : World} {s s₀ : Shared} {h₀ : Heap} {L fa : Addr} {cdv : Value} {mg mb : Str → Option Value} {u : Str → Option Value} {Q : Flow → Shared → Prop} {E : Value → Shared → Prop} {mrest : List (Addr × Obj)} {P : List (Addr × Obj) → Prop}
  {M TL TM R : Addr} {now turn x W : Int} {tknow tkturn tkkd tkx tkk tW : Tok} {rs : List Row3} {ock ocs : Obj} {vs : Option Value} {nR nM : Nat} {T0 T1 T2 : Addr} {u0 u1 u2 : Value}
  (X : (hd.heap_39 w.params).In h₀) (T : T18 s₀ mg mb h₀)
  (F : Fr h₀ L s.heap (fun y => if y = Str.ofString "x" then some (.int x tkx) else if y = Str.ofString "kind" then some (.int 2 tkkd) else lawM M TL TM R now turn tknow tkturn u y))
  (h3 : rs.length ≤ 4) (hrs : ∀ r ∈ rs, (r.q, r.obj) ∈ mrest)
  (dk : ock.data = .cell (some (.int 1 tkk)))
  (e1 : @Ne Nat R TM) (e2 : @Ne Nat TL TM) (e3 : @Ne Nat (L + 1 + 1) TM) (e4 : @Ne Nat (L + 1) TM)
  (N : News h₀ L s.heap ((R, PySem.W.listOf (rrefs rs) nR) :: (TM, PySem.W.listOf #[u0, .int W tW, u2] nM) :: (TL, listOf #[.ref T0, .ref T1, .ref T2] 0) :: (L + 1 + 1, ocs) :: (L + 1, ock) :: mrest))
  (hcall : ∀ (s' : Shared) (m' : Str → Option Value) (lead : List (Addr × Obj)) (tkh tkx' : Tok) (Q' : Value → Shared → Prop) (E' : Value → Shared → Prop), (∀ p ∈ lead, p.1 ∈ [R, TM, TL, L + 1 + 1, L + 1]) → (TM, PySem.W.listOf #[u0, .int W tW, u2] nM) ∈ lead → Below callerA h₀ [] h₀ → Fr h₀ L s'.heap m' → News h₀ L s'.heap (lead ++ mrest) →
    (∀ (mrest' : List (Addr × Obj)) (h' : Heap) (tk' : Tok), P mrest' → OwnOff mrest' [TM] → (∀ r ∈ rs, (r.q, r.obj) ∈ mrest') → Fr h₀ L h' m' → News h₀ L h' (lead ++ mrest') → Q' (.bool true) { s' with heap := h', toks := tk' }) →
    wpAny (model Challenge.rw_fe0018_01.row.prog w) (callerA.deeper (lawEnv L fa cdv)) (call (.ref 255) [.ref T1, .int 2 tkh, .int x tkx']) Q' E' s')
  (hQ : ∀ (mrest' : List (Addr × Obj)) (D D1 D2 : Addr) (o1 o2 : Obj) (r : Row3) (tW' tturn' : Tok) (u' : Str → Option Value) (h' : Heap) (tk' : Tok), P mrest' → r.w = W → r.c = turn → r.k = 1 → Fr h₀ L h' (lawM M TL TM D now (turn + 1) tknow tturn' u') →
     News h₀ L h' ((D, PySem.W.listOf (((rs.filter fun r => r.k != 1).map fun (e : Row3) => Value.ref e.q) ++ [Value.ref r.q]).toArray 0) :: (D2, o2) :: (r.q, r.obj) :: (D1, o1) :: (R, PySem.W.listOf (rrefs rs) nR) :: (TM, PySem.W.listOf #[u0, .int (W) tW', u2] nM) :: (TL, PySem.W.listOf #[.ref T0, .ref T1, .ref T2] 0) :: (L + 1 + 1, ocs) :: (L + 1, ock) :: mrest') →
     (∀ p ∈ (D2, o2) :: (r.q, r.obj) :: (D1, o1) :: (R, PySem.W.listOf (rrefs rs) nR) :: (TM, PySem.W.listOf #[u0, .int (W) tW', u2] nM) :: (TL, PySem.W.listOf #[.ref T0, .ref T1, .ref T2] 0) :: (L + 1 + 1, ocs) :: (L + 1, ock) :: mrest', p.1 < D) →
     (∀ p ∈ (R, PySem.W.listOf (rrefs rs) nR) :: (TM, PySem.W.listOf #[u0, .int (W) tW', u2] nM) :: (TL, PySem.W.listOf #[.ref T0, .ref T1, .ref T2] 0) :: (L + 1 + 1, ocs) :: (L + 1, ock) :: mrest', p.1 < r.q) → (∀ r ∈ rs, (r.q, r.obj) ∈ mrest') → Q .next { s with heap := h', toks := tk' })
  (B : Below callerA h₀ [] h₀)
  : wpAny (model Challenge.rw_fe0018_01.row.prog w) (callerA.deeper (lawEnv L fa cdv)) (exec loopIf (lawEnv L fa cdv)) Q E s := by
  revert X; k_fill; intro X
  dsimp only [loopIf, loopBody, loopStmt, lawEnv, lawScope, lawBody, lawDef, Challenge.pw_fe0018_01, List.getLastD, List.getLast?, List.getLast, List.getD, List.getElem?_cons_succ, List.getElem?_cons_zero, Option.getD, List.drop]
  try k_fold
  k_steps
  unfold Stop
  (rename Fr _ _ _ _ => F₅); (rename News _ _ _ _ => N₅)
  refine hcall _ _ [_, _, _, _, _] _ _ _ _ (fun p hp => ?_) (by k_mem) B F₅ N₅ fun mrest' h1 tk1 hP hoff hrs1 F₆ N₆ => ?_
  · simp only [List.mem_cons, List.not_mem_nil, or_false] at hp ⊢
    rcases hp with rfl | rfl | rfl | rfl | rfl <;> simp
  simp only [List.cons_append, List.nil_append] at N₆
  clear F₅ N₅ hcall
  k_steps
  unfold Stop
  (rename Fr _ _ _ _ => F₇); (rename News _ _ _ _ => N₇)
  refine keep_rule (cl := [(Str.ofString "k", L + 1)]) F₇ N₇ rfl rfl (by k_mem) (fun r hr => List.mem_append_right [_, _, _, _, _] (hrs1 r hr)) h3 (by k_mem) dk rfl rfl rfl (by decide) rfl (by decide) rfl (by decide) rfl rfl (fun _ => rfl) (fun _ => rfl) (fun _ => rfl) (by decide) (by decide) fun D1 h2 tk2 F₈ N₈ off8 => ?_
  clear F₇ N₇
  k_steps
  unfold Stop
  (rename Fr _ _ _ _ => F₉); (rename News _ _ _ _ => N₉); (rename _ ∧ _ => lz); clear lz; (rename _ ∧ _ => lq)
  refine kmk_add_lit (its := rrefs (rs.filter fun r => r.k != 1)) F₉ N₉ ⟨_, (N₉ (D1, _) (by k_mem)).1, rfl, _, rfl⟩ ⟨_, (N₉ _ (.head _)).1, rfl, _, rfl⟩ rfl (fun D h3' FA NA lt => ?_) ?_
  rotate_left
  · have : (rs.filter fun r => r.k != 1).length ≤ rs.length := List.length_filter_le ..
    simp only [rrefs, List.length_map, List.length_cons, List.length_nil, sizeLine_eq]; omega
  clear F₉ N₉
  k_steps
  (rename Fr _ _ _ _ => FB); (rename News _ _ _ _ => NB)
  refine hQ mrest' D D1 _ _ _ ⟨_, _, _, _, _, _, _⟩ _ _ _ _ _ hP rfl rfl rfl (fr_of FB (pinM (by exact rfl) (by exact rfl) (by exact rfl) (by exact rfl) (by exact rfl) (by exact rfl))) NB lt ?lq hrs1
  case lq =>
    intro p hp
    obtain ⟨_, q1, q2, q3, q4, q5, q6⟩ := lq
    simp only [List.mem_cons] at hp
    rcases hp with rfl | rfl | rfl | rfl | rfl | hp
    · exact q1
    · exact q2
    · exact q3
    · exact q4
    · exact q5
    · exact ktn_ltOf q6 p hp
set_option maxRecDepth 100000 in
set_option maxHeartbeats 8000000 in
theorem binst22 {w : World} {s s₀ : Shared} {h₀ : Heap} {L fa : Addr} {cdv : Value} {mg mb : Str → Option Value} {u : Str → Option Value} {Q : Flow → Shared → Prop} {E : Value → Shared → Prop} {mrest : List (Addr × Obj)} {P : List (Addr × Obj) → Prop}
  {M TL TM R : Addr} {now turn x W : Int} {tknow tkturn tkkd tkx tkk tW : Tok} {rs : List Row3} {ock ocs : Obj} {vs : Option Value} {nR nM : Nat} {T0 T1 T2 : Addr} {u0 u1 u2 : Value}
  (X : (hd.heap_39 w.params).In h₀) (T : T18 s₀ mg mb h₀)
  (F : Fr h₀ L s.heap (fun y => if y = Str.ofString "x" then some (.int x tkx) else if y = Str.ofString "kind" then some (.int 2 tkkd) else lawM M TL TM R now turn tknow tkturn u y))
  (h3 : rs.length ≤ 4) (hrs : ∀ r ∈ rs, (r.q, r.obj) ∈ mrest)
  (dk : ock.data = .cell (some (.int 2 tkk)))
  (e1 : @Ne Nat R TM) (e2 : @Ne Nat TL TM) (e3 : @Ne Nat (L + 1 + 1) TM) (e4 : @Ne Nat (L + 1) TM)
  (N : News h₀ L s.heap ((R, PySem.W.listOf (rrefs rs) nR) :: (TM, PySem.W.listOf #[u0, u1, .int W tW] nM) :: (TL, listOf #[.ref T0, .ref T1, .ref T2] 0) :: (L + 1 + 1, ocs) :: (L + 1, ock) :: mrest))
  (hcall : ∀ (s' : Shared) (m' : Str → Option Value) (lead : List (Addr × Obj)) (tkh tkx' : Tok) (Q' : Value → Shared → Prop) (E' : Value → Shared → Prop), (∀ p ∈ lead, p.1 ∈ [R, TM, TL, L + 1 + 1, L + 1]) → (TM, PySem.W.listOf #[u0, u1, .int W tW] nM) ∈ lead → Below callerA h₀ [] h₀ → Fr h₀ L s'.heap m' → News h₀ L s'.heap (lead ++ mrest) →
    (∀ (mrest' : List (Addr × Obj)) (h' : Heap) (tk' : Tok), P mrest' → OwnOff mrest' [TM] → (∀ r ∈ rs, (r.q, r.obj) ∈ mrest') → Fr h₀ L h' m' → News h₀ L h' (lead ++ mrest') → Q' (.bool true) { s' with heap := h', toks := tk' }) →
    wpAny (model Challenge.rw_fe0018_01.row.prog w) (callerA.deeper (lawEnv L fa cdv)) (call (.ref 255) [.ref T2, .int 2 tkh, .int x tkx']) Q' E' s')
  (hQ : ∀ (mrest' : List (Addr × Obj)) (D D1 D2 : Addr) (o1 o2 : Obj) (r : Row3) (tW' tturn' : Tok) (u' : Str → Option Value) (h' : Heap) (tk' : Tok), P mrest' → r.w = W → r.c = turn → r.k = 2 → Fr h₀ L h' (lawM M TL TM D now (turn + 1) tknow tturn' u') →
     News h₀ L h' ((D, PySem.W.listOf (((rs.filter fun r => r.k != 2).map fun (e : Row3) => Value.ref e.q) ++ [Value.ref r.q]).toArray 0) :: (D2, o2) :: (r.q, r.obj) :: (D1, o1) :: (R, PySem.W.listOf (rrefs rs) nR) :: (TM, PySem.W.listOf #[u0, u1, .int (W) tW'] nM) :: (TL, PySem.W.listOf #[.ref T0, .ref T1, .ref T2] 0) :: (L + 1 + 1, ocs) :: (L + 1, ock) :: mrest') →
     (∀ p ∈ (D2, o2) :: (r.q, r.obj) :: (D1, o1) :: (R, PySem.W.listOf (rrefs rs) nR) :: (TM, PySem.W.listOf #[u0, u1, .int (W) tW'] nM) :: (TL, PySem.W.listOf #[.ref T0, .ref T1, .ref T2] 0) :: (L + 1 + 1, ocs) :: (L + 1, ock) :: mrest', p.1 < D) →
     (∀ p ∈ (R, PySem.W.listOf (rrefs rs) nR) :: (TM, PySem.W.listOf #[u0, u1, .int (W) tW'] nM) :: (TL, PySem.W.listOf #[.ref T0, .ref T1, .ref T2] 0) :: (L + 1 + 1, ocs) :: (L + 1, ock) :: mrest', p.1 < r.q) → (∀ r ∈ rs, (r.q, r.obj) ∈ mrest') → Q .next { s with heap := h', toks := tk' })
  (B : Below callerA h₀ [] h₀)
  : wpAny (model Challenge.rw_fe0018_01.row.prog w) (callerA.deeper (lawEnv L fa cdv)) (exec loopIf (lawEnv L fa cdv)) Q E s := by
  revert X; k_fill; intro X
  dsimp only [loopIf, loopBody, loopStmt, lawEnv, lawScope, lawBody, lawDef, Challenge.pw_fe0018_01, List.getLastD, List.getLast?, List.getLast, List.getD, List.getElem?_cons_succ, List.getElem?_cons_zero, Option.getD, List.drop]
  try k_fold
  k_steps
  unfold Stop
  (rename Fr _ _ _ _ => F₅); (rename News _ _ _ _ => N₅)
  refine hcall _ _ [_, _, _, _, _] _ _ _ _ (fun p hp => ?_) (by k_mem) B F₅ N₅ fun mrest' h1 tk1 hP hoff hrs1 F₆ N₆ => ?_
  · simp only [List.mem_cons, List.not_mem_nil, or_false] at hp ⊢
    rcases hp with rfl | rfl | rfl | rfl | rfl <;> simp
  simp only [List.cons_append, List.nil_append] at N₆
  clear F₅ N₅ hcall
  k_steps
  unfold Stop
  (rename Fr _ _ _ _ => F₇); (rename News _ _ _ _ => N₇)
  refine keep_rule (cl := [(Str.ofString "k", L + 1)]) F₇ N₇ rfl rfl (by k_mem) (fun r hr => List.mem_append_right [_, _, _, _, _] (hrs1 r hr)) h3 (by k_mem) dk rfl rfl rfl (by decide) rfl (by decide) rfl (by decide) rfl rfl (fun _ => rfl) (fun _ => rfl) (fun _ => rfl) (by decide) (by decide) fun D1 h2 tk2 F₈ N₈ off8 => ?_
  clear F₇ N₇
  k_steps
  unfold Stop
  (rename Fr _ _ _ _ => F₉); (rename News _ _ _ _ => N₉); (rename _ ∧ _ => lz); clear lz; (rename _ ∧ _ => lq)
  refine kmk_add_lit (its := rrefs (rs.filter fun r => r.k != 2)) F₉ N₉ ⟨_, (N₉ (D1, _) (by k_mem)).1, rfl, _, rfl⟩ ⟨_, (N₉ _ (.head _)).1, rfl, _, rfl⟩ rfl (fun D h3' FA NA lt => ?_) ?_
  rotate_left
  · have : (rs.filter fun r => r.k != 2).length ≤ rs.length := List.length_filter_le ..
    simp only [rrefs, List.length_map, List.length_cons, List.length_nil, sizeLine_eq]; omega
  clear F₉ N₉
  k_steps
  (rename Fr _ _ _ _ => FB); (rename News _ _ _ _ => NB)
  refine hQ mrest' D D1 _ _ _ ⟨_, _, _, _, _, _, _⟩ _ _ _ _ _ hP rfl rfl rfl (fr_of FB (pinM (by exact rfl) (by exact rfl) (by exact rfl) (by exact rfl) (by exact rfl) (by exact rfl))) NB lt ?lq hrs1
  case lq =>
    intro p hp
    obtain ⟨_, q1, q2, q3, q4, q5, q6⟩ := lq
    simp only [List.mem_cons] at hp
    rcases hp with rfl | rfl | rfl | rfl | rfl | hp
    · exact q1
    · exact q2
    · exact q3
    · exact q4
    · exact q5
    · exact ktn_ltOf q6 p hp
end Mine
end

section
open PySem PySem.W PyProof.Rows PySem.Calls
namespace Mine
local macro_rules | `(tactic| walk_at "idle line 0") => `(tactic| fail "idle")
local macro_rules | `(tactic| walk_at "idle line 1") => `(tactic| fail "idle")
local macro_rules | `(tactic| walk_at "idle line 2") => `(tactic| fail "idle")
local macro_rules | `(tactic| k_room) => `(tactic| ((try simp only [depth_mark, depth_under_make, depth_under_kw, depth_in1, depth_deeper, depth_caller, recursionLimit]); omega))
local macro_rules | `(tactic| k_units) => `(tactic| ((try simp only [cLine, units_in1, units_deeper, Around.mark_units, units_caller]); omega))
local macro_rules | `(tactic| walk_at "binaryOp Add ref ref") => `(tactic| (k_here; (with_reducible show wpAny _ _ (binaryOp _ (Value.ref _) (Value.ref _)) _ _ _); refine stop_of ?_))
local macro_rules | `(tactic| walk_at "call ref") => `(tactic| (k_here; (with_reducible show wpAny _ _ (call (Value.ref 255) _) _ _ _); refine stop_of ?_))
local macro_rules | `(tactic| walk_at "eval ListComp") => `(tactic| (k_here; (with_reducible show wpAny _ _ (eval (PySem.Expr.ListComp (PySem.Expr.Name _ _) _ _ _) _) _ _ _); refine stop_of ?_))
set_option maxRecDepth 100000 in
set_option maxHeartbeats 8000000 in
theorem bnone0 {w : World} {s s₀ : Shared} {h₀ : Heap} {L fa : Addr} {cdv : Value} {mg mb : Str → Option Value} {u : Str → Option Value} {Q : Flow → Shared → Prop} {E : Value → Shared → Prop} {mrest : List (Addr × Obj)} {P : List (Addr × Obj) → Prop}
  {M TL TM R : Addr} {now turn x : Int} {tknow tkturn tkkd tkx tkk : Tok} {rs : List Row3} {ock ocs : Obj} {nR nM : Nat} {T0 T1 T2 : Addr} {u0 u1 u2 : Value}
  (X : (hd.heap_39 w.params).In h₀) (T : T18 s₀ mg mb h₀)
  (F : Fr h₀ L s.heap (fun y => if y = Str.ofString "x" then some (.int x tkx) else if y = Str.ofString "kind" then some (.int 2 tkkd) else lawM M TL TM R now turn tknow tkturn u y))
  (dk : ock.data = .cell (some (.int 0 tkk)))
  (N : News h₀ L s.heap ((R, PySem.W.listOf (rrefs rs) nR) :: (TM, PySem.W.listOf #[.none, u1, u2] nM) :: (TL, PySem.W.listOf #[.ref T0, .ref T1, .ref T2] 0) :: (L + 1 + 1, ocs) :: (L + 1, ock) :: mrest))
  (hcall : ∀ (s' : Shared) (m' : Str → Option Value) (lead : List (Addr × Obj)) (tkh tkx' : Tok) (Q' : Value → Shared → Prop) (E' : Value → Shared → Prop), (∀ p ∈ lead, p.1 ∈ [R, TM, TL, L + 1 + 1, L + 1]) → Below callerA h₀ [] h₀ → Fr h₀ L s'.heap m' → News h₀ L s'.heap (lead ++ mrest) →
    (∀ (h' : Heap) (tk' : Tok), Fr h₀ L h' m' → News h₀ L h' (lead ++ mrest) → Q' (.bool false) { s' with heap := h', toks := tk' }) →
    wpAny (model Challenge.rw_fe0018_01.row.prog w) (callerA.deeper (lawEnv L fa cdv)) (call (.ref 255) [.ref T0, .int 2 tkh, .int x tkx']) Q' E' s')
  (hQ : ∀ (u' : Str → Option Value) (h' : Heap) (tk' : Tok), Fr h₀ L h' (lawM M TL TM R now turn tknow tkturn u') → News h₀ L h' ((R, PySem.W.listOf (rrefs rs) nR) :: (TM, PySem.W.listOf #[.none, u1, u2] nM) :: (TL, PySem.W.listOf #[.ref T0, .ref T1, .ref T2] 0) :: (L + 1 + 1, ocs) :: (L + 1, ock) :: mrest) → Q .next { s with heap := h', toks := tk' })
  (B : Below callerA h₀ [] h₀)
  : wpAny (model Challenge.rw_fe0018_01.row.prog w) (callerA.deeper (lawEnv L fa cdv)) (exec loopIf (lawEnv L fa cdv)) Q E s := by
  revert X; k_fill; intro X
  dsimp only [loopIf, loopBody, loopStmt, lawEnv, lawScope, lawBody, lawDef, Challenge.pw_fe0018_01, List.getLastD, List.getLast?, List.getLast, List.getD, List.getElem?_cons_succ, List.getElem?_cons_zero, Option.getD, List.drop]
  try k_fold
  k_steps
  unfold Stop
  (rename Fr _ _ _ _ => F₅); (rename News _ _ _ _ => N₅)
  refine hcall _ _ [_, _, _, _, _] _ _ _ _ (fun p hp => ?_) B F₅ N₅ fun h1 tk1 F₆ N₆ => ?_
  · simp only [List.mem_cons, List.not_mem_nil, or_false] at hp ⊢
    rcases hp with rfl | rfl | rfl | rfl | rfl <;> simp
  simp only [List.cons_append, List.nil_append] at N₆
  clear F₅ N₅ hcall
  k_steps
  (rename Fr _ _ _ _ => FB); (rename News _ _ _ _ => NB)
  exact hQ _ _ _ (fr_of FB (pinM (by exact rfl) (by exact rfl) (by exact rfl) (by exact rfl) (by exact rfl) (by exact rfl))) NB
set_option maxRecDepth 100000 in
set_option maxHeartbeats 8000000 in
theorem bnone1 {w : World} {s s₀ : Shared} {h₀ : Heap} {L fa : Addr} {cdv : Value} {mg mb : Str → Option Value} {u : Str → Option Value} {Q : Flow → Shared → Prop} {E : Value → Shared → Prop} {mrest : List (Addr × Obj)} {P : List (Addr × Obj) → Prop}
  {M TL TM R : Addr} {now turn x : Int} {tknow tkturn tkkd tkx tkk : Tok} {rs : List Row3} {ock ocs : Obj} {nR nM : Nat} {T0 T1 T2 : Addr} {u0 u1 u2 : Value}
  (X : (hd.heap_39 w.params).In h₀) (T : T18 s₀ mg mb h₀)
  (F : Fr h₀ L s.heap (fun y => if y = Str.ofString "x" then some (.int x tkx) else if y = Str.ofString "kind" then some (.int 2 tkkd) else lawM M TL TM R now turn tknow tkturn u y))
  (dk : ock.data = .cell (some (.int 1 tkk)))
  (N : News h₀ L s.heap ((R, PySem.W.listOf (rrefs rs) nR) :: (TM, PySem.W.listOf #[u0, .none, u2] nM) :: (TL, PySem.W.listOf #[.ref T0, .ref T1, .ref T2] 0) :: (L + 1 + 1, ocs) :: (L + 1, ock) :: mrest))
  (hcall : ∀ (s' : Shared) (m' : Str → Option Value) (lead : List (Addr × Obj)) (tkh tkx' : Tok) (Q' : Value → Shared → Prop) (E' : Value → Shared → Prop), (∀ p ∈ lead, p.1 ∈ [R, TM, TL, L + 1 + 1, L + 1]) → Below callerA h₀ [] h₀ → Fr h₀ L s'.heap m' → News h₀ L s'.heap (lead ++ mrest) →
    (∀ (h' : Heap) (tk' : Tok), Fr h₀ L h' m' → News h₀ L h' (lead ++ mrest) → Q' (.bool false) { s' with heap := h', toks := tk' }) →
    wpAny (model Challenge.rw_fe0018_01.row.prog w) (callerA.deeper (lawEnv L fa cdv)) (call (.ref 255) [.ref T1, .int 2 tkh, .int x tkx']) Q' E' s')
  (hQ : ∀ (u' : Str → Option Value) (h' : Heap) (tk' : Tok), Fr h₀ L h' (lawM M TL TM R now turn tknow tkturn u') → News h₀ L h' ((R, PySem.W.listOf (rrefs rs) nR) :: (TM, PySem.W.listOf #[u0, .none, u2] nM) :: (TL, PySem.W.listOf #[.ref T0, .ref T1, .ref T2] 0) :: (L + 1 + 1, ocs) :: (L + 1, ock) :: mrest) → Q .next { s with heap := h', toks := tk' })
  (B : Below callerA h₀ [] h₀)
  : wpAny (model Challenge.rw_fe0018_01.row.prog w) (callerA.deeper (lawEnv L fa cdv)) (exec loopIf (lawEnv L fa cdv)) Q E s := by
  revert X; k_fill; intro X
  dsimp only [loopIf, loopBody, loopStmt, lawEnv, lawScope, lawBody, lawDef, Challenge.pw_fe0018_01, List.getLastD, List.getLast?, List.getLast, List.getD, List.getElem?_cons_succ, List.getElem?_cons_zero, Option.getD, List.drop]
  try k_fold
  k_steps
  unfold Stop
  (rename Fr _ _ _ _ => F₅); (rename News _ _ _ _ => N₅)
  refine hcall _ _ [_, _, _, _, _] _ _ _ _ (fun p hp => ?_) B F₅ N₅ fun h1 tk1 F₆ N₆ => ?_
  · simp only [List.mem_cons, List.not_mem_nil, or_false] at hp ⊢
    rcases hp with rfl | rfl | rfl | rfl | rfl <;> simp
  simp only [List.cons_append, List.nil_append] at N₆
  clear F₅ N₅ hcall
  k_steps
  (rename Fr _ _ _ _ => FB); (rename News _ _ _ _ => NB)
  exact hQ _ _ _ (fr_of FB (pinM (by exact rfl) (by exact rfl) (by exact rfl) (by exact rfl) (by exact rfl) (by exact rfl))) NB
set_option maxRecDepth 100000 in
set_option maxHeartbeats 8000000 in
theorem bnone2 {w : World} {s s₀ : Shared} {h₀ : Heap} {L fa : Addr} {cdv : Value} {mg mb : Str → Option Value} {u : Str → Option Value} {Q : Flow → Shared → Prop} {E : Value → Shared → Prop} {mrest : List (Addr × Obj)} {P : List (Addr × Obj) → Prop}
  {M TL TM R : Addr} {now turn x : Int} {tknow tkturn tkkd tkx tkk : Tok} {rs : List Row3} {ock ocs : Obj} {nR nM : Nat} {T0 T1 T2 : Addr} {u0 u1 u2 : Value}
  (X : (hd.heap_39 w.params).In h₀) (T : T18 s₀ mg mb h₀)
  (F : Fr h₀ L s.heap (fun y => if y = Str.ofString "x" then some (.int x tkx) else if y = Str.ofString "kind" then some (.int 2 tkkd) else lawM M TL TM R now turn tknow tkturn u y))
  (dk : ock.data = .cell (some (.int 2 tkk)))
  (N : News h₀ L s.heap ((R, PySem.W.listOf (rrefs rs) nR) :: (TM, PySem.W.listOf #[u0, u1, .none] nM) :: (TL, PySem.W.listOf #[.ref T0, .ref T1, .ref T2] 0) :: (L + 1 + 1, ocs) :: (L + 1, ock) :: mrest))
  (hcall : ∀ (s' : Shared) (m' : Str → Option Value) (lead : List (Addr × Obj)) (tkh tkx' : Tok) (Q' : Value → Shared → Prop) (E' : Value → Shared → Prop), (∀ p ∈ lead, p.1 ∈ [R, TM, TL, L + 1 + 1, L + 1]) → Below callerA h₀ [] h₀ → Fr h₀ L s'.heap m' → News h₀ L s'.heap (lead ++ mrest) →
    (∀ (h' : Heap) (tk' : Tok), Fr h₀ L h' m' → News h₀ L h' (lead ++ mrest) → Q' (.bool false) { s' with heap := h', toks := tk' }) →
    wpAny (model Challenge.rw_fe0018_01.row.prog w) (callerA.deeper (lawEnv L fa cdv)) (call (.ref 255) [.ref T2, .int 2 tkh, .int x tkx']) Q' E' s')
  (hQ : ∀ (u' : Str → Option Value) (h' : Heap) (tk' : Tok), Fr h₀ L h' (lawM M TL TM R now turn tknow tkturn u') → News h₀ L h' ((R, PySem.W.listOf (rrefs rs) nR) :: (TM, PySem.W.listOf #[u0, u1, .none] nM) :: (TL, PySem.W.listOf #[.ref T0, .ref T1, .ref T2] 0) :: (L + 1 + 1, ocs) :: (L + 1, ock) :: mrest) → Q .next { s with heap := h', toks := tk' })
  (B : Below callerA h₀ [] h₀)
  : wpAny (model Challenge.rw_fe0018_01.row.prog w) (callerA.deeper (lawEnv L fa cdv)) (exec loopIf (lawEnv L fa cdv)) Q E s := by
  revert X; k_fill; intro X
  dsimp only [loopIf, loopBody, loopStmt, lawEnv, lawScope, lawBody, lawDef, Challenge.pw_fe0018_01, List.getLastD, List.getLast?, List.getLast, List.getD, List.getElem?_cons_succ, List.getElem?_cons_zero, Option.getD, List.drop]
  try k_fold
  k_steps
  unfold Stop
  (rename Fr _ _ _ _ => F₅); (rename News _ _ _ _ => N₅)
  refine hcall _ _ [_, _, _, _, _] _ _ _ _ (fun p hp => ?_) B F₅ N₅ fun h1 tk1 F₆ N₆ => ?_
  · simp only [List.mem_cons, List.not_mem_nil, or_false] at hp ⊢
    rcases hp with rfl | rfl | rfl | rfl | rfl <;> simp
  simp only [List.cons_append, List.nil_append] at N₆
  clear F₅ N₅ hcall
  k_steps
  (rename Fr _ _ _ _ => FB); (rename News _ _ _ _ => NB)
  exact hQ _ _ _ (fr_of FB (pinM (by exact rfl) (by exact rfl) (by exact rfl) (by exact rfl) (by exact rfl) (by exact rfl))) NB
end Mine
end

section
open PySem PySem.W PyProof.Rows PySem.Calls
namespace Mine
local macro_rules | `(tactic| walk_at "idle line 0") => `(tactic| fail "idle")
local macro_rules | `(tactic| walk_at "idle line 1") => `(tactic| fail "idle")
local macro_rules | `(tactic| walk_at "idle line 2") => `(tactic| fail "idle")
local macro_rules | `(tactic| walk_at "idle line 3") => `(tactic| fail "idle")
local macro_rules | `(tactic| walk_at "idle line 4") => `(tactic| fail "idle")
local macro_rules | `(tactic| walk_at "idle line 5") => `(tactic| fail "idle")
local macro_rules | `(tactic| k_room) => `(tactic| ((try simp only [depth_mark, depth_under_make, depth_under_kw, depth_in1, depth_deeper, depth_caller, recursionLimit]); omega))
local macro_rules | `(tactic| k_units) => `(tactic| ((try simp only [cLine, units_in1, units_deeper, Around.mark_units, units_caller]); omega))
local macro_rules | `(tactic| walk_at "binaryOp Add ref ref") => `(tactic| (k_here; (with_reducible show wpAny _ _ (binaryOp _ (Value.ref _) (Value.ref _)) _ _ _); refine stop_of ?_))
local macro_rules | `(tactic| walk_at "call ref") => `(tactic| (k_here; (with_reducible show wpAny _ _ (call (Value.ref 100) _) _ _ _); refine stop_of ?_))
local macro_rules | `(tactic| walk_at "eval ListComp") => `(tactic| (k_here; (with_reducible show wpAny _ _ (eval (PySem.Expr.ListComp (PySem.Expr.Name _ _) _ _ _) _) _ _ _); refine stop_of ?_))
local macro_rules | `(tactic| walk_at "exec Assign cons ListComp") => `(tactic| (k_here; refine stop_of ?_))
set_option maxRecDepth 100000 in
set_option maxHeartbeats 8000000 in
theorem bsusp0 {w : World} {s s₀ : Shared} {h₀ : Heap} {L fa : Addr} {cdv : Value} {mg mb : Str → Option Value} {u : Str → Option Value} {Q : Flow → Shared → Prop} {E : Value → Shared → Prop} {mrest : List (Addr × Obj)} {P : List (Addr × Obj) → Prop}
  {M TL TM R : Addr} {now turn x : Int} {tknow tkturn tkkd tkx tkk : Tok} {rs : List Row3} {ock ocs : Obj} {nR nM : Nat} {T0 T1 T2 : Addr} {u0 u1 u2 : Value}
  (X : (hd.heap_39 w.params).In h₀) (T : T18 s₀ mg mb h₀)
  (F : Fr h₀ L s.heap (fun y => if y = Str.ofString "x" then some (.int x tkx) else if y = Str.ofString "kind" then some (.int 3 tkkd) else lawM M TL TM R now turn tknow tkturn u y))
  {dT : Addr} {oT : Obj}
  (h3 : rs.length ≤ 4) (dk : ock.data = .cell (some (.int 0 tkk))) (hT : (T0, instObj 123 dT) ∈ mrest) (hdT : (dT, oT) ∈ mrest) (hoT : ∃ h1 h2 h3 k1 k2 k3 v b, oT = dictOf [⟨h1, .str (Str.ofString "taskTime") k1, v⟩, ⟨h2, .str (Str.ofString "isScheduled") k2, .bool b⟩, ⟨h3, .str (Str.ofString "taskManager") k3, .ref M⟩] 3)
  (N : News h₀ L s.heap ((R, PySem.W.listOf (rrefs rs) nR) :: (TM, PySem.W.listOf #[u0, u1, u2] nM) :: (TL, PySem.W.listOf #[.ref T0, .ref T1, .ref T2] 0) :: (L + 1 + 1, ocs) :: (L + 1, ock) :: mrest))
  (hcall : ∀ (s' : Shared) (m' : Str → Option Value) (lead : List (Addr × Obj)) (Q' : Value → Shared → Prop) (E' : Value → Shared → Prop), (∀ p ∈ lead, p.1 ∈ [R, TM, TL, L + 1 + 1, L + 1]) → Below callerA h₀ [] h₀ → Fr h₀ L s'.heap m' → News h₀ L s'.heap (lead ++ mrest) →
    (∀ (mrest' : List (Addr × Obj)) (h' : Heap) (tk' : Tok), P mrest' → (∀ r ∈ rs, (r.q, r.obj) ∈ mrest') → Fr h₀ L h' m' → News h₀ L h' (lead ++ mrest') → Q' .none { s' with heap := h', toks := tk' }) →
    wpAny (model Challenge.rw_fe0018_01.row.prog w) (callerA.deeper (lawEnv L fa cdv)) (call (.ref 100) [.ref T0]) Q' E' s')
  (hQ : ∀ (mrest' : List (Addr × Obj)) (D : Addr) (u' : Str → Option Value) (h' : Heap) (tk' : Tok), P mrest' → Fr h₀ L h' (lawM M TL TM D now turn tknow tkturn u') →
     News h₀ L h' ((D, PySem.W.listOf (rrefs (rs.filter fun r => r.k != 0)) (rs.filter fun r => r.k != 0).length) :: (R, PySem.W.listOf (rrefs rs) nR) :: (TM, PySem.W.listOf #[u0, u1, u2] nM) :: (TL, PySem.W.listOf #[.ref T0, .ref T1, .ref T2] 0) :: (L + 1 + 1, ocs) :: (L + 1, ock) :: mrest') → (∀ p ∈ (R, PySem.W.listOf (rrefs rs) nR) :: (TM, PySem.W.listOf #[u0, u1, u2] nM) :: (TL, PySem.W.listOf #[.ref T0, .ref T1, .ref T2] 0) :: (L + 1 + 1, ocs) :: (L + 1, ock) :: mrest', @Ne Nat p.1 D) → (∀ r ∈ rs, (r.q, r.obj) ∈ mrest') → Q .next { s with heap := h', toks := tk' })
  (B : Below callerA h₀ [] h₀)
  : wpAny (model Challenge.rw_fe0018_01.row.prog w) (callerA.deeper (lawEnv L fa cdv)) (exec loopIf (lawEnv L fa cdv)) Q E s := by
  obtain ⟨a1, a2, a3, c1, c2, c3, v, b, rfl⟩ := hoT
  have N0 := news_sub N (l' := (T0, instObj 123 dT) :: (dT, dictOf [⟨a1, .str (Str.ofString "taskTime") c1, v⟩, ⟨a2, .str (Str.ofString "isScheduled") c2, .bool b⟩, ⟨a3, .str (Str.ofString "taskManager") c3, .ref M⟩] 3) :: (R, PySem.W.listOf (rrefs rs) nR) :: (TM, PySem.W.listOf #[u0, u1, u2] nM) :: (TL, PySem.W.listOf #[.ref T0, .ref T1, .ref T2] 0) :: (L + 1 + 1, ocs) :: (L + 1, ock) :: mrest) (fun p hp => by
    rcases List.mem_cons.mp hp with rfl | hp
    · exact List.mem_append_right [_, _, _, _, _] hT
    · rcases List.mem_cons.mp hp with rfl | hp
      · exact List.mem_append_right [_, _, _, _, _] hdT
      · exact hp)
  clear N
  revert X; k_fill; intro X
  dsimp only [loopIf, loopBody, loopStmt, lawEnv, lawScope, lawBody, lawDef, Challenge.pw_fe0018_01, List.getLastD, List.getLast?, List.getLast, List.getD, List.getElem?_cons_succ, List.getElem?_cons_zero, Option.getD, List.drop]
  try k_fold
  k_steps
  unfold Stop
  (rename Fr _ _ _ _ => F₅); (rename News _ _ _ _ => N₅)
  refine hcall _ _ [_, _, _, _, _] _ _ (fun p hp => ?_) B F₅ (fun p hp => N₅ p (.tail _ (.tail _ hp))) fun mrest' h1 tk1 hP hrs1 F₆ N₆ => ?_
  · simp only [List.mem_cons, List.not_mem_nil, or_false] at hp ⊢
    rcases hp with rfl | rfl | rfl | rfl | rfl <;> simp
  simp only [List.cons_append, List.nil_append] at N₆
  clear F₅ N₅ hcall
  k_steps
  unfold Stop
  (rename Fr _ _ _ _ => F₇); (rename News _ _ _ _ => N₇)
  refine keep_asg (cl := [(Str.ofString "k", L + 1)]) (by with_unfolding_all rfl) rfl rfl F₇ N₇ rfl rfl (by k_mem) (fun r hr => List.mem_append_right [_, _, _, _, _] (hrs1 r hr)) h3 (by k_mem) dk rfl rfl rfl (by decide) rfl (by decide) rfl (by decide) rfl rfl (fun _ => rfl) (fun _ => rfl) (fun _ => rfl) (by decide) (by decide) fun D1 h2 tk2 F₈ N₈ off8 => ?_
  clear F₇ N₇
  k_steps
  (rename Fr _ _ _ _ => FB); (rename News _ _ _ _ => NB)
  exact hQ mrest' D1 _ _ _ hP (fr_of FB (pinM (by exact rfl) (by exact rfl) (by exact rfl) (by exact rfl) (by exact rfl) (by exact rfl))) NB off8 hrs1
set_option maxRecDepth 100000 in
set_option maxHeartbeats 8000000 in
theorem bsusp1 {w : World} {s s₀ : Shared} {h₀ : Heap} {L fa : Addr} {cdv : Value} {mg mb : Str → Option Value} {u : Str → Option Value} {Q : Flow → Shared → Prop} {E : Value → Shared → Prop} {mrest : List (Addr × Obj)} {P : List (Addr × Obj) → Prop}
  {M TL TM R : Addr} {now turn x : Int} {tknow tkturn tkkd tkx tkk : Tok} {rs : List Row3} {ock ocs : Obj} {nR nM : Nat} {T0 T1 T2 : Addr} {u0 u1 u2 : Value}
  (X : (hd.heap_39 w.params).In h₀) (T : T18 s₀ mg mb h₀)
  (F : Fr h₀ L s.heap (fun y => if y = Str.ofString "x" then some (.int x tkx) else if y = Str.ofString "kind" then some (.int 3 tkkd) else lawM M TL TM R now turn tknow tkturn u y))
  {dT : Addr} {oT : Obj}
  (h3 : rs.length ≤ 4) (dk : ock.data = .cell (some (.int 1 tkk))) (hT : (T1, instObj 123 dT) ∈ mrest) (hdT : (dT, oT) ∈ mrest) (hoT : ∃ h1 h2 h3 k1 k2 k3 v b, oT = dictOf [⟨h1, .str (Str.ofString "taskTime") k1, v⟩, ⟨h2, .str (Str.ofString "isScheduled") k2, .bool b⟩, ⟨h3, .str (Str.ofString "taskManager") k3, .ref M⟩] 3)
  (N : News h₀ L s.heap ((R, PySem.W.listOf (rrefs rs) nR) :: (TM, PySem.W.listOf #[u0, u1, u2] nM) :: (TL, PySem.W.listOf #[.ref T0, .ref T1, .ref T2] 0) :: (L + 1 + 1, ocs) :: (L + 1, ock) :: mrest))
  (hcall : ∀ (s' : Shared) (m' : Str → Option Value) (lead : List (Addr × Obj)) (Q' : Value → Shared → Prop) (E' : Value → Shared → Prop), (∀ p ∈ lead, p.1 ∈ [R, TM, TL, L + 1 + 1, L + 1]) → Below callerA h₀ [] h₀ → Fr h₀ L s'.heap m' → News h₀ L s'.heap (lead ++ mrest) →
    (∀ (mrest' : List (Addr × Obj)) (h' : Heap) (tk' : Tok), P mrest' → (∀ r ∈ rs, (r.q, r.obj) ∈ mrest') → Fr h₀ L h' m' → News h₀ L h' (lead ++ mrest') → Q' .none { s' with heap := h', toks := tk' }) →
    wpAny (model Challenge.rw_fe0018_01.row.prog w) (callerA.deeper (lawEnv L fa cdv)) (call (.ref 100) [.ref T1]) Q' E' s')
  (hQ : ∀ (mrest' : List (Addr × Obj)) (D : Addr) (u' : Str → Option Value) (h' : Heap) (tk' : Tok), P mrest' → Fr h₀ L h' (lawM M TL TM D now turn tknow tkturn u') →
     News h₀ L h' ((D, PySem.W.listOf (rrefs (rs.filter fun r => r.k != 1)) (rs.filter fun r => r.k != 1).length) :: (R, PySem.W.listOf (rrefs rs) nR) :: (TM, PySem.W.listOf #[u0, u1, u2] nM) :: (TL, PySem.W.listOf #[.ref T0, .ref T1, .ref T2] 0) :: (L + 1 + 1, ocs) :: (L + 1, ock) :: mrest') → (∀ p ∈ (R, PySem.W.listOf (rrefs rs) nR) :: (TM, PySem.W.listOf #[u0, u1, u2] nM) :: (TL, PySem.W.listOf #[.ref T0, .ref T1, .ref T2] 0) :: (L + 1 + 1, ocs) :: (L + 1, ock) :: mrest', @Ne Nat p.1 D) → (∀ r ∈ rs, (r.q, r.obj) ∈ mrest') → Q .next { s with heap := h', toks := tk' })
  (B : Below callerA h₀ [] h₀)
  : wpAny (model Challenge.rw_fe0018_01.row.prog w) (callerA.deeper (lawEnv L fa cdv)) (exec loopIf (lawEnv L fa cdv)) Q E s := by
  obtain ⟨a1, a2, a3, c1, c2, c3, v, b, rfl⟩ := hoT
  have N0 := news_sub N (l' := (T1, instObj 123 dT) :: (dT, dictOf [⟨a1, .str (Str.ofString "taskTime") c1, v⟩, ⟨a2, .str (Str.ofString "isScheduled") c2, .bool b⟩, ⟨a3, .str (Str.ofString "taskManager") c3, .ref M⟩] 3) :: (R, PySem.W.listOf (rrefs rs) nR) :: (TM, PySem.W.listOf #[u0, u1, u2] nM) :: (TL, PySem.W.listOf #[.ref T0, .ref T1, .ref T2] 0) :: (L + 1 + 1, ocs) :: (L + 1, ock) :: mrest) (fun p hp => by
    rcases List.mem_cons.mp hp with rfl | hp
    · exact List.mem_append_right [_, _, _, _, _] hT
    · rcases List.mem_cons.mp hp with rfl | hp
      · exact List.mem_append_right [_, _, _, _, _] hdT
      · exact hp)
  clear N
  revert X; k_fill; intro X
  dsimp only [loopIf, loopBody, loopStmt, lawEnv, lawScope, lawBody, lawDef, Challenge.pw_fe0018_01, List.getLastD, List.getLast?, List.getLast, List.getD, List.getElem?_cons_succ, List.getElem?_cons_zero, Option.getD, List.drop]
  try k_fold
  k_steps
  unfold Stop
  (rename Fr _ _ _ _ => F₅); (rename News _ _ _ _ => N₅)
  refine hcall _ _ [_, _, _, _, _] _ _ (fun p hp => ?_) B F₅ (fun p hp => N₅ p (.tail _ (.tail _ hp))) fun mrest' h1 tk1 hP hrs1 F₆ N₆ => ?_
  · simp only [List.mem_cons, List.not_mem_nil, or_false] at hp ⊢
    rcases hp with rfl | rfl | rfl | rfl | rfl <;> simp
  simp only [List.cons_append, List.nil_append] at N₆
  clear F₅ N₅ hcall
  k_steps
  unfold Stop
  (rename Fr _ _ _ _ => F₇); (rename News _ _ _ _ => N₇)
  refine keep_asg (cl := [(Str.ofString "k", L + 1)]) (by with_unfolding_all rfl) rfl rfl F₇ N₇ rfl rfl (by k_mem) (fun r hr => List.mem_append_right [_, _, _, _, _] (hrs1 r hr)) h3 (by k_mem) dk rfl rfl rfl (by decide) rfl (by decide) rfl (by decide) rfl rfl (fun _ => rfl) (fun _ => rfl) (fun _ => rfl) (by decide) (by decide) fun D1 h2 tk2 F₈ N₈ off8 => ?_
  clear F₇ N₇
  k_steps
  (rename Fr _ _ _ _ => FB); (rename News _ _ _ _ => NB)
  exact hQ mrest' D1 _ _ _ hP (fr_of FB (pinM (by exact rfl) (by exact rfl) (by exact rfl) (by exact rfl) (by exact rfl) (by exact rfl))) NB off8 hrs1
set_option maxRecDepth 100000 in
set_option maxHeartbeats 8000000 in
theorem bsusp2 {w : World} {s s₀ : Shared} {h₀ : Heap} {L fa : Addr} {cdv : Value} {mg mb : Str → Option Value} {u : Str → Option Value} {Q : Flow → Shared → Prop} {E : Value → Shared → Prop} {mrest : List (Addr × Obj)} {P : List (Addr × Obj) → Prop}
  {M TL TM R : Addr} {now turn x : Int} {tknow tkturn tkkd tkx tkk : Tok} {rs : List Row3} {ock ocs : Obj} {nR nM : Nat} {T0 T1 T2 : Addr} {u0 u1 u2 : Value}
  (X : (hd.heap_39 w.params).In h₀) (T : T18 s₀ mg mb h₀)
  (F : Fr h₀ L s.heap (fun y => if y = Str.ofString "x" then some (.int x tkx) else if y = Str.ofString "kind" then some (.int 3 tkkd) else lawM M TL TM R now turn tknow tkturn u y))
  {dT : Addr} {oT : Obj}
  (h3 : rs.length ≤ 4) (dk : ock.data = .cell (some (.int 2 tkk))) (hT : (T2, instObj 123 dT) ∈ mrest) (hdT : (dT, oT) ∈ mrest) (hoT : ∃ h1 h2 h3 k1 k2 k3 v b, oT = dictOf [⟨h1, .str (Str.ofString "taskTime") k1, v⟩, ⟨h2, .str (Str.ofString "isScheduled") k2, .bool b⟩, ⟨h3, .str (Str.ofString "taskManager") k3, .ref M⟩] 3)
  (N : News h₀ L s.heap ((R, PySem.W.listOf (rrefs rs) nR) :: (TM, PySem.W.listOf #[u0, u1, u2] nM) :: (TL, PySem.W.listOf #[.ref T0, .ref T1, .ref T2] 0) :: (L + 1 + 1, ocs) :: (L + 1, ock) :: mrest))
  (hcall : ∀ (s' : Shared) (m' : Str → Option Value) (lead : List (Addr × Obj)) (Q' : Value → Shared → Prop) (E' : Value → Shared → Prop), (∀ p ∈ lead, p.1 ∈ [R, TM, TL, L + 1 + 1, L + 1]) → Below callerA h₀ [] h₀ → Fr h₀ L s'.heap m' → News h₀ L s'.heap (lead ++ mrest) →
    (∀ (mrest' : List (Addr × Obj)) (h' : Heap) (tk' : Tok), P mrest' → (∀ r ∈ rs, (r.q, r.obj) ∈ mrest') → Fr h₀ L h' m' → News h₀ L h' (lead ++ mrest') → Q' .none { s' with heap := h', toks := tk' }) →
    wpAny (model Challenge.rw_fe0018_01.row.prog w) (callerA.deeper (lawEnv L fa cdv)) (call (.ref 100) [.ref T2]) Q' E' s')
  (hQ : ∀ (mrest' : List (Addr × Obj)) (D : Addr) (u' : Str → Option Value) (h' : Heap) (tk' : Tok), P mrest' → Fr h₀ L h' (lawM M TL TM D now turn tknow tkturn u') →
     News h₀ L h' ((D, PySem.W.listOf (rrefs (rs.filter fun r => r.k != 2)) (rs.filter fun r => r.k != 2).length) :: (R, PySem.W.listOf (rrefs rs) nR) :: (TM, PySem.W.listOf #[u0, u1, u2] nM) :: (TL, PySem.W.listOf #[.ref T0, .ref T1, .ref T2] 0) :: (L + 1 + 1, ocs) :: (L + 1, ock) :: mrest') → (∀ p ∈ (R, PySem.W.listOf (rrefs rs) nR) :: (TM, PySem.W.listOf #[u0, u1, u2] nM) :: (TL, PySem.W.listOf #[.ref T0, .ref T1, .ref T2] 0) :: (L + 1 + 1, ocs) :: (L + 1, ock) :: mrest', @Ne Nat p.1 D) → (∀ r ∈ rs, (r.q, r.obj) ∈ mrest') → Q .next { s with heap := h', toks := tk' })
  (B : Below callerA h₀ [] h₀)
  : wpAny (model Challenge.rw_fe0018_01.row.prog w) (callerA.deeper (lawEnv L fa cdv)) (exec loopIf (lawEnv L fa cdv)) Q E s := by
  obtain ⟨a1, a2, a3, c1, c2, c3, v, b, rfl⟩ := hoT
  have N0 := news_sub N (l' := (T2, instObj 123 dT) :: (dT, dictOf [⟨a1, .str (Str.ofString "taskTime") c1, v⟩, ⟨a2, .str (Str.ofString "isScheduled") c2, .bool b⟩, ⟨a3, .str (Str.ofString "taskManager") c3, .ref M⟩] 3) :: (R, PySem.W.listOf (rrefs rs) nR) :: (TM, PySem.W.listOf #[u0, u1, u2] nM) :: (TL, PySem.W.listOf #[.ref T0, .ref T1, .ref T2] 0) :: (L + 1 + 1, ocs) :: (L + 1, ock) :: mrest) (fun p hp => by
    rcases List.mem_cons.mp hp with rfl | hp
    · exact List.mem_append_right [_, _, _, _, _] hT
    · rcases List.mem_cons.mp hp with rfl | hp
      · exact List.mem_append_right [_, _, _, _, _] hdT
      · exact hp)
  clear N
  revert X; k_fill; intro X
  dsimp only [loopIf, loopBody, loopStmt, lawEnv, lawScope, lawBody, lawDef, Challenge.pw_fe0018_01, List.getLastD, List.getLast?, List.getLast, List.getD, List.getElem?_cons_succ, List.getElem?_cons_zero, Option.getD, List.drop]
  try k_fold
  k_steps
  unfold Stop
  (rename Fr _ _ _ _ => F₅); (rename News _ _ _ _ => N₅)
  refine hcall _ _ [_, _, _, _, _] _ _ (fun p hp => ?_) B F₅ (fun p hp => N₅ p (.tail _ (.tail _ hp))) fun mrest' h1 tk1 hP hrs1 F₆ N₆ => ?_
  · simp only [List.mem_cons, List.not_mem_nil, or_false] at hp ⊢
    rcases hp with rfl | rfl | rfl | rfl | rfl <;> simp
  simp only [List.cons_append, List.nil_append] at N₆
  clear F₅ N₅ hcall
  k_steps
  unfold Stop
  (rename Fr _ _ _ _ => F₇); (rename News _ _ _ _ => N₇)
  refine keep_asg (cl := [(Str.ofString "k", L + 1)]) (by with_unfolding_all rfl) rfl rfl F₇ N₇ rfl rfl (by k_mem) (fun r hr => List.mem_append_right [_, _, _, _, _] (hrs1 r hr)) h3 (by k_mem) dk rfl rfl rfl (by decide) rfl (by decide) rfl (by decide) rfl rfl (fun _ => rfl) (fun _ => rfl) (fun _ => rfl) (by decide) (by decide) fun D1 h2 tk2 F₈ N₈ off8 => ?_
  clear F₇ N₇
  k_steps
  (rename Fr _ _ _ _ => FB); (rename News _ _ _ _ => NB)
  exact hQ mrest' D1 _ _ _ hP (fr_of FB (pinM (by exact rfl) (by exact rfl) (by exact rfl) (by exact rfl) (by exact rfl) (by exact rfl))) NB off8 hrs1
end Mine
end

section
open PySem PySem.W PyProof.Rows PySem.Calls
namespace Mine
local macro_rules | `(tactic| k_room) => `(tactic| ((try simp only [depth_mark, depth_under_make, depth_under_kw, depth_in1, depth_deeper, depth_caller, recursionLimit]); omega))
local macro_rules | `(tactic| k_units) => `(tactic| ((try simp only [cLine, units_in1, units_deeper, Around.mark_units, units_caller]); omega))
local macro_rules | `(tactic| walk_at "binaryOp Add ref ref") => `(tactic| (k_here; (with_reducible show wpAny _ _ (binaryOp _ (Value.ref _) (Value.ref _)) _ _ _); refine stop_of ?_))
local macro_rules | `(tactic| walk_at "call ref") => `(tactic| (k_here; (with_reducible show wpAny _ _ (call (Value.ref 100) _) _ _ _); refine stop_of ?_))
local macro_rules | `(tactic| walk_at "eval ListComp") => `(tactic| (k_here; (with_reducible show wpAny _ _ (eval (PySem.Expr.ListComp (PySem.Expr.Name _ _) _ _ _) _) _ _ _); refine stop_of ?_))
local macro_rules | `(tactic| walk_at "exec Assign cons ListComp") => `(tactic| (k_here; refine stop_of ?_))
set_option maxRecDepth 100000 in
set_option maxHeartbeats 8000000 in
theorem bpass {w : World} {s s₀ : Shared} {h₀ : Heap} {L fa : Addr} {cdv : Value} {mg mb : Str → Option Value} {u : Str → Option Value} {Q : Flow → Shared → Prop} {E : Value → Shared → Prop} {mrest : List (Addr × Obj)} {P : List (Addr × Obj) → Prop}
  {M TL TM R : Addr} {now turn x : Int} {tknow tkturn tkkd tkx tkk : Tok} {rs : List Row3} {ock ocs : Obj} {nR nM : Nat} {T0 T1 T2 : Addr} {u0 u1 u2 : Value}
  (X : (hd.heap_39 w.params).In h₀) (T : T18 s₀ mg mb h₀)
  (F : Fr h₀ L s.heap (fun y => if y = Str.ofString "x" then some (.int x tkx) else if y = Str.ofString "kind" then some (.int 4 tkkd) else lawM M TL TM R now turn tknow tkturn u y))
  {dM H C : Addr} {hs1 hs2 hs3 : Int} {tk1 tk2 tk3 tk4 : Tok}
  (n1 : @Ne Nat M dM) (hoff : OwnOff mrest [dM])
  (N : News h₀ L s.heap ((M, instObj 244 dM) :: (dM, dictOf [⟨hs1, .str (Str.ofString "tasks") tk1, .ref H⟩, ⟨hs2, .str (Str.ofString "now") tk2, .int now tk3⟩, ⟨hs3, .str (Str.ofString "counter") tk4, .ref C⟩] 3) :: mrest))
  (hQ : ∀ (t1 t2 : Tok) (u' : Str → Option Value) (h' : Heap) (tk' : Tok), Fr h₀ L h' (lawM M TL TM R (now + x) turn t1 tkturn u') → News h₀ L h' ((M, instObj 244 dM) :: (dM, dictOf [⟨hs1, .str (Str.ofString "tasks") tk1, .ref H⟩, ⟨hs2, .str (Str.ofString "now") tk2, .int (now + x) t2⟩, ⟨hs3, .str (Str.ofString "counter") tk4, .ref C⟩] 3) :: mrest) → Q .next { s with heap := h', toks := tk' })
  (B : Below callerA h₀ [] h₀)
  : wpAny (model Challenge.rw_fe0018_01.row.prog w) (callerA.deeper (lawEnv L fa cdv)) (exec loopIf (lawEnv L fa cdv)) Q E s := by
  revert X; k_fill; intro X
  dsimp only [loopIf, loopBody, loopStmt, lawEnv, lawScope, lawBody, lawDef, Challenge.pw_fe0018_01, List.getLastD, List.getLast?, List.getLast, List.getD, List.getElem?_cons_succ, List.getElem?_cons_zero, Option.getD, List.drop]
  try k_fold
  k_steps
  (rename Fr _ _ _ _ => FB); (rename News _ _ _ _ => NB)
  exact hQ _ _ _ _ _ (fr_of FB (pinM (by exact rfl) (by exact rfl) (by exact rfl) (by exact rfl) (by exact rfl) (by exact rfl))) NB
end Mine
end

section
open PySem PySem.W PyProof.Rows PySem.Calls
namespace Mine
local macro_rules | `(tactic| walk_at "idle line 0") => `(tactic| fail "idle")
local macro_rules | `(tactic| walk_at "idle line 1") => `(tactic| fail "idle")
local macro_rules | `(tactic| walk_at "idle line 2") => `(tactic| fail "idle")
local macro_rules | `(tactic| walk_at "idle line 3") => `(tactic| fail "idle")
local macro_rules | `(tactic| k_room) => `(tactic| ((try simp only [depth_mark, depth_under_make, depth_under_kw, depth_in1, depth_deeper, depth_caller, recursionLimit]); omega))
local macro_rules | `(tactic| k_units) => `(tactic| ((try simp only [cLine, units_in1, units_deeper, Around.mark_units, units_caller]); omega))
local macro_rules | `(tactic| walk_at "call ref") => `(tactic| (k_here; (with_reducible show wpAny _ _ (call (Value.ref 234) _) _ _ _); refine stop_of ?_))
local macro_rules | `(tactic| walk_at "compareOp NotEq ref ref") => `(tactic| (k_here; (with_reducible show wpAny _ _ (compareOp CmpOp.NotEq (Value.ref _) (Value.ref _)) _ _ _); k_dflt (refine' ne_nil ?a ?b ?z ?u ?_; (case a => exact News.get (by k_asm) (by k_mem)); (case b => exact News.get (by k_asm) (by k_mem)); (case z => exact Nat.zero_lt_succ _); (case u => k_units); k_whole)))
local macro_rules | `(tactic| walk_at "call builtin:sorted") => `(tactic| (k_here; refine stop_of ?_))
local macro_rules | `(tactic| walk_at "subscriptTail Name Constant ref int") => `(tactic| (k_here; (with_reducible show wpAny _ _ (subscriptTail _ _ (Value.ref _) (Value.int _ _)) _ _ _); k_dflt (refine' item_litK ?k1 ?k2 ?k3 ?k4 ?_ ?k6; (case k1 => kmk_list); (case k2 => decide); (case k3 => decide); (case k4 => rfl); (case k6 => with_unfolding_all rfl); k_whole)))
local macro_rules | `(tactic| walk_at "subscriptTail Subscript") => `(tactic| (k_here; (with_reducible show wpAny _ _ (subscriptTail _ _ (Value.ref _) (Value.int _ _)) _ _ _); k_dflt (refine' item_tupleT ?t ?a ?b ?c ?d ?_; (case t => exact News.isTup (by k_asm) (by k_mem)); (case a => decide); (case b => decide); (case c => rfl); (case d => rfl); k_whole)))
set_option maxRecDepth 100000 in
set_option maxHeartbeats 8000000 in
theorem bnextA {w : World} {s s₀ : Shared} {h₀ : Heap} {L fa : Addr} {cdv : Value} {mg mb : Str → Option Value} {u : Str → Option Value} {Q : Flow → Shared → Prop} {E : Value → Shared → Prop} {mrest : List (Addr × Obj)} {P : List (Addr × Obj) → Prop}
  {M TL TM R dM H C : Addr} {now turn x : Int} {tknow tkturn tkkd tkx tk1 tk2 tk3 tk4 : Tok} {hs1 hs2 hs3 : Int} {rs : List Row3} {nR nM : Nat} {T0 T1 T2 : Addr} {u0 u1 u2 : Value} {W : Int} {Ts : Addr}
  (X : (hd.heap_39 w.params).In h₀) (T : T18 s₀ mg mb h₀)
  (F : Fr h₀ L s.heap (fun y => if y = Str.ofString "x" then some (.int x tkx) else if y = Str.ofString "kind" then some (.int 5 tkkd) else lawM M TL TM R now turn tknow tkturn u y))
  (hrs : ∀ r ∈ rs, (r.q, r.obj) ∈ mrest) (h3 : rs.length ≤ 3) (hc : rs.Pairwise fun a b => a.c ≠ b.c)
  (hM : ∀ p ∈ (M, instObj 244 dM) :: (dM, dictOf [⟨hs1, .str (Str.ofString "tasks") tk1, .ref H⟩, ⟨hs2, .str (Str.ofString "now") tk2, .int now tk3⟩, ⟨hs3, .str (Str.ofString "counter") tk4, .ref C⟩] 3) :: [], p ∈ mrest)
  (N : News h₀ L s.heap ((R, PySem.W.listOf (rrefs rs) nR) :: (TM, PySem.W.listOf #[u0, u1, u2] nM) :: (TL, PySem.W.listOf #[.ref T0, .ref T1, .ref T2] 0) :: mrest))
  (hcall : ∀ (s' : Shared) (m' : Str → Option Value) (lead : List (Addr × Obj)) (Q' : Value → Shared → Prop) (E' : Value → Shared → Prop), (∀ p ∈ lead, p.1 ∈ [R, TM, TL]) → Below callerA h₀ [] h₀ → Fr h₀ L s'.heap m' → News h₀ L s'.heap (lead ++ mrest) →
    (∀ (mrest' : List (Addr × Obj)) (Dt : Addr) (h' : Heap) (tk' : Tok), P mrest' → (∀ r ∈ rs, (r.q, r.obj) ∈ mrest') → Fr h₀ L h' m' → News h₀ L h' ((Dt, { cls := .type "tuple", data := .seq #[.none, .none] }) :: (lead ++ mrest')) → Q' (.ref Dt) { s' with heap := h', toks := tk' }) →
    wpAny (model Challenge.rw_fe0018_01.row.prog w) (callerA.deeper (lawEnv L fa cdv)) (call (.ref 234) [.ref M]) Q' E' s')
  (hz : rs = [])
  (hQ : ∀ (mrest' : List (Addr × Obj)) (u' : Str → Option Value) (h' : Heap) (tk' : Tok), P mrest' → (∀ r ∈ rs, (r.q, r.obj) ∈ mrest') → Fr h₀ L h' (lawM M TL TM R now turn tknow tkturn u') → News h₀ L h' ((R, PySem.W.listOf (rrefs rs) nR) :: (TM, PySem.W.listOf #[u0, u1, u2] nM) :: (TL, PySem.W.listOf #[.ref T0, .ref T1, .ref T2] 0) :: mrest') → Q .next { s with heap := h', toks := tk' })
  (B : Below callerA h₀ [] h₀)
  : wpAny (model Challenge.rw_fe0018_01.row.prog w) (callerA.deeper (lawEnv L fa cdv)) (exec loopIf (lawEnv L fa cdv)) Q E s := by
  have N0 := news_sub N (l' := (M, instObj 244 dM) :: (dM, dictOf [⟨hs1, .str (Str.ofString "tasks") tk1, .ref H⟩, ⟨hs2, .str (Str.ofString "now") tk2, .int now tk3⟩, ⟨hs3, .str (Str.ofString "counter") tk4, .ref C⟩] 3) :: (R, PySem.W.listOf (rrefs rs) nR) :: (TM, PySem.W.listOf #[u0, u1, u2] nM) :: (TL, PySem.W.listOf #[.ref T0, .ref T1, .ref T2] 0) :: mrest) (fun p hp => by
    simp only [List.mem_cons] at hp
    rcases hp with rfl | rfl | hp
    · exact List.mem_append_right [_, _, _] (hM _ (.head _))
    · exact List.mem_append_right [_, _, _] (hM _ (.tail _ (.head _)))
    · simp only [List.mem_cons]; exact hp)
  clear N
  revert X; k_fill; intro X
  dsimp only [loopIf, loopBody, loopStmt, lawEnv, lawScope, lawBody, lawDef, Challenge.pw_fe0018_01, List.getLastD, List.getLast?, List.getLast, List.getD, List.getElem?_cons_succ, List.getElem?_cons_zero, Option.getD, List.drop]
  try k_fold
  k_steps
  unfold Stop
  (rename Fr _ _ _ _ => F₅); (rename News _ _ _ _ => N₅)
  refine hcall _ _ [_, _, _] _ _ (fun p hp => ?_) B F₅ (fun p hp => N₅ p (.tail _ (.tail _ hp))) fun mrest' Dt h1 tk1 hP hrs1 F₆ N₆ => ?_
  · simp only [List.mem_cons, List.not_mem_nil, or_false] at hp ⊢
    rcases hp with rfl | rfl | rfl <;> simp
  simp only [List.cons_append, List.nil_append] at N₆
  clear F₅ N₅ hcall
  k_steps
  unfold Stop
  (rename Fr _ _ _ _ => F₇); (rename News _ _ _ _ => N₇)
  refine sorted_rows F₇ N₇ (by k_mem) (fun r hr => .tail _ (.tail _ (.tail _ (.tail _ (hrs1 r hr))))) h3 hc fun D ds c h2 hp hs F₈ N₈ lt8 => ?_
  subst hz
  cases List.perm_nil.mp hp
  clear F₇ N₇
  have N₉ : News h₀ L h2 ((D, PySem.W.listOf #[] c) :: _) := N₈
  clear N₈
  k_steps
  (rename Fr _ _ _ _ => FB); (rename News _ _ _ _ => NB)
  exact hQ _ _ _ _ hP hrs1 (fr_of FB (pinM (by exact rfl) (by exact rfl) (by exact rfl) (by exact rfl) (by exact rfl) (by exact rfl))) (news_sub NB (fun p hp => by simp only [List.mem_cons] at hp ⊢; rcases hp with h | h | h | h <;> simp [h]))
end Mine
end

section
open PySem PySem.W PyProof.Rows PySem.Calls
namespace Mine
local macro_rules | `(tactic| walk_at "idle line 0") => `(tactic| fail "idle")
local macro_rules | `(tactic| walk_at "idle line 1") => `(tactic| fail "idle")
local macro_rules | `(tactic| walk_at "idle line 2") => `(tactic| fail "idle")
local macro_rules | `(tactic| walk_at "idle line 3") => `(tactic| fail "idle")
local macro_rules | `(tactic| walk_at "idle line 4") => `(tactic| fail "idle")
local macro_rules | `(tactic| walk_at "idle line 5") => `(tactic| fail "idle")
local macro_rules | `(tactic| walk_at "idle line 6") => `(tactic| fail "idle")
local macro_rules | `(tactic| walk_at "idle line 7") => `(tactic| fail "idle")
local macro_rules | `(tactic| walk_at "idle line 8") => `(tactic| fail "idle")
local macro_rules | `(tactic| k_room) => `(tactic| ((try simp only [depth_mark, depth_under_make, depth_under_kw, depth_in1, depth_deeper, depth_caller, recursionLimit]); omega))
local macro_rules | `(tactic| k_units) => `(tactic| ((try simp only [cLine, units_in1, units_deeper, Around.mark_units, units_caller]); omega))
local macro_rules | `(tactic| walk_at "call ref") => `(tactic| (k_here; (with_reducible show wpAny _ _ (call (Value.ref 234) _) _ _ _); refine stop_of ?_))
local macro_rules | `(tactic| walk_at "compareOp NotEq ref ref") => `(tactic| (k_here; (with_reducible show wpAny _ _ (compareOp CmpOp.NotEq (Value.ref _) (Value.ref _)) _ _ _); k_dflt (refine' ne_nil ?a ?b ?z ?u ?_; (case a => exact News.get (by k_asm) (by k_mem)); (case b => exact News.get (by k_asm) (by k_mem)); (case z => exact Nat.zero_lt_succ _); (case u => k_units); k_whole)))
local macro_rules | `(tactic| walk_at "call builtin:sorted") => `(tactic| (k_here; refine stop_of ?_))
local macro_rules | `(tactic| walk_at "subscriptTail Name Constant ref int") => `(tactic| (k_here; (with_reducible show wpAny _ _ (subscriptTail _ _ (Value.ref _) (Value.int _ _)) _ _ _); k_dflt (refine' item_litK ?k1 ?k2 ?k3 ?k4 ?_ ?k6; (case k1 => kmk_list); (case k2 => decide); (case k3 => decide); (case k4 => rfl); (case k6 => with_unfolding_all rfl); k_whole)))
local macro_rules | `(tactic| walk_at "subscriptTail Subscript") => `(tactic| (k_here; (with_reducible show wpAny _ _ (subscriptTail _ _ (Value.ref _) (Value.int _ _)) _ _ _); k_dflt (refine' item_tupleT ?t ?a ?b ?c ?d ?_; (case t => exact News.isTup (by k_asm) (by k_mem)); (case a => decide); (case b => decide); (case c => rfl); (case d => rfl); k_whole)))
set_option maxRecDepth 100000 in
set_option maxHeartbeats 8000000 in
theorem bnextB {w : World} {s s₀ : Shared} {h₀ : Heap} {L fa : Addr} {cdv : Value} {mg mb : Str → Option Value} {u : Str → Option Value} {Q : Flow → Shared → Prop} {E : Value → Shared → Prop} {mrest : List (Addr × Obj)} {P : List (Addr × Obj) → Prop}
  {M TL TM R dM H C : Addr} {now turn x : Int} {tknow tkturn tkkd tkx tk1 tk2 tk3 tk4 : Tok} {hs1 hs2 hs3 : Int} {rs : List Row3} {nR nM : Nat} {T0 T1 T2 : Addr} {u0 u1 u2 : Value} {W : Int} {Ts : Addr}
  (X : (hd.heap_39 w.params).In h₀) (T : T18 s₀ mg mb h₀)
  (F : Fr h₀ L s.heap (fun y => if y = Str.ofString "x" then some (.int x tkx) else if y = Str.ofString "kind" then some (.int 5 tkkd) else lawM M TL TM R now turn tknow tkturn u y))
  (hrs : ∀ r ∈ rs, (r.q, r.obj) ∈ mrest) (h3 : rs.length ≤ 3) (hc : rs.Pairwise fun a b => a.c ≠ b.c)
  (hM : ∀ p ∈ (M, instObj 244 dM) :: (dM, dictOf [⟨hs1, .str (Str.ofString "tasks") tk1, .ref H⟩, ⟨hs2, .str (Str.ofString "now") tk2, .int now tk3⟩, ⟨hs3, .str (Str.ofString "counter") tk4, .ref C⟩] 3) :: [], p ∈ mrest)
  (N : News h₀ L s.heap ((R, PySem.W.listOf (rrefs rs) nR) :: (TM, PySem.W.listOf #[u0, u1, u2] nM) :: (TL, PySem.W.listOf #[.ref T0, .ref T1, .ref T2] 0) :: mrest))
  (hcall : ∀ (s' : Shared) (m' : Str → Option Value) (lead : List (Addr × Obj)) (Q' : Value → Shared → Prop) (E' : Value → Shared → Prop), (∀ p ∈ lead, p.1 ∈ [R, TM, TL]) → Below callerA h₀ [] h₀ → Fr h₀ L s'.heap m' → News h₀ L s'.heap (lead ++ mrest) →
    (∀ (mrest' : List (Addr × Obj)) (Dt : Addr) (h' : Heap) (tk' : Tok) (tv : Tok), P mrest' → (∀ r ∈ rs, (r.q, r.obj) ∈ mrest') → Fr h₀ L h' m' → News h₀ L h' ((Dt, { cls := .type "tuple", data := .seq #[.none, .int (W - now) tv] }) :: (lead ++ mrest')) → Q' (.ref Dt) { s' with heap := h', toks := tk' }) →
    wpAny (model Challenge.rw_fe0018_01.row.prog w) (callerA.deeper (lawEnv L fa cdv)) (call (.ref 234) [.ref M]) Q' E' s')
  (hW : now < W) (hrel : ∀ ds : List Row3, ds.Perm rs → Srt ds → ∃ d ds', ds = d :: ds' ∧ d.w = W)
  (hQ : ∀ (mrest' : List (Addr × Obj)) (u' : Str → Option Value) (h' : Heap) (tk' : Tok), P mrest' → (∀ r ∈ rs, (r.q, r.obj) ∈ mrest') → Fr h₀ L h' (lawM M TL TM R now turn tknow tkturn u') → News h₀ L h' ((R, PySem.W.listOf (rrefs rs) nR) :: (TM, PySem.W.listOf #[u0, u1, u2] nM) :: (TL, PySem.W.listOf #[.ref T0, .ref T1, .ref T2] 0) :: mrest') → Q .next { s with heap := h', toks := tk' })
  (B : Below callerA h₀ [] h₀)
  : wpAny (model Challenge.rw_fe0018_01.row.prog w) (callerA.deeper (lawEnv L fa cdv)) (exec loopIf (lawEnv L fa cdv)) Q E s := by
  have N0 := news_sub N (l' := (M, instObj 244 dM) :: (dM, dictOf [⟨hs1, .str (Str.ofString "tasks") tk1, .ref H⟩, ⟨hs2, .str (Str.ofString "now") tk2, .int now tk3⟩, ⟨hs3, .str (Str.ofString "counter") tk4, .ref C⟩] 3) :: (R, PySem.W.listOf (rrefs rs) nR) :: (TM, PySem.W.listOf #[u0, u1, u2] nM) :: (TL, PySem.W.listOf #[.ref T0, .ref T1, .ref T2] 0) :: mrest) (fun p hp => by
    simp only [List.mem_cons] at hp
    rcases hp with rfl | rfl | hp
    · exact List.mem_append_right [_, _, _] (hM _ (.head _))
    · exact List.mem_append_right [_, _, _] (hM _ (.tail _ (.head _)))
    · simp only [List.mem_cons]; exact hp)
  clear N
  revert X; k_fill; intro X
  dsimp only [loopIf, loopBody, loopStmt, lawEnv, lawScope, lawBody, lawDef, Challenge.pw_fe0018_01, List.getLastD, List.getLast?, List.getLast, List.getD, List.getElem?_cons_succ, List.getElem?_cons_zero, Option.getD, List.drop]
  try k_fold
  k_steps
  unfold Stop
  (rename Fr _ _ _ _ => F₅); (rename News _ _ _ _ => N₅)
  refine hcall _ _ [_, _, _] _ _ (fun p hp => ?_) B F₅ (fun p hp => N₅ p (.tail _ (.tail _ hp))) fun mrest' Dt h1 tk1 tv hP hrs1 F₆ N₆ => ?_
  · simp only [List.mem_cons, List.not_mem_nil, or_false] at hp ⊢
    rcases hp with rfl | rfl | rfl <;> simp
  simp only [List.cons_append, List.nil_append] at N₆
  clear F₅ N₅ hcall
  k_steps
  unfold Stop
  (rename Fr _ _ _ _ => F₇); (rename News _ _ _ _ => N₇)
  refine sorted_rows F₇ N₇ (by k_mem) (fun r hr => .tail _ (.tail _ (.tail _ (.tail _ (hrs1 r hr))))) h3 hc fun D ds c h2 hp hs F₈ N₈ lt8 => ?_
  have hdl : ds.length ≤ 3 := hp.length_eq ▸ h3
  have hin : ∀ r ∈ ds, (r.q, r.obj) ∈ mrest' := fun r hr => hrs1 r (hp.mem_iff.mp hr)
  obtain ⟨d, ds', rfl, hdw⟩ := hrel ds hp hs
  have hd := hin d (.head _)
  clear F₇ N₇
  have N₉ := news_sub N₈ (l' := (D, PySem.W.listOf (rrefs (d :: ds')) c) :: (d.q, d.obj) :: _) (fun p hp => by
    rcases List.mem_cons.mp hp with rfl | hp
    · exact .head _
    · rcases List.mem_cons.mp hp with rfl | hp
      · exact .tail _ (.tail _ (.tail _ (.tail _ (.tail _ hd))))
      · exact .tail _ hp)
  clear N₈
  rcases ds' with _ | ⟨d2, _ | ⟨d3, _ | ⟨d4, r⟩⟩⟩
  rotate_left 3
  · simp only [List.length_cons] at hdl; omega
  all_goals k_steps
  all_goals first
    | (exfalso; omega)
    | skip
  all_goals ((rename Fr _ _ _ _ => FB); (rename News _ _ _ _ => NB))
  all_goals exact hQ _ _ _ _ hP hrs1 (fr_of FB (pinM (by exact rfl) (by exact rfl) (by exact rfl) (by exact rfl) (by exact rfl) (by exact rfl))) (news_sub NB (fun p hp => by simp only [List.mem_cons] at hp ⊢; rcases hp with h | h | h | h <;> simp [h]))
end Mine
end

section
open PySem PySem.W PyProof.Rows PySem.Calls
namespace Mine
def SelAt (k : Int) (T0 T1 T2 Ts : Addr) : Prop := k = 0 ∧ Ts = T0 ∨ k = 1 ∧ Ts = T1 ∨ k = 2 ∧ Ts = T2
theorem item_sel {prog : Program} {w : World} {A : Around} {E : Value → Shared → Prop} {s : Shared} {value slice : Expr} {l : Addr} {k : Int} {u : Tok} {T0 T1 T2 Ts : Addr} {Q : Value → Shared → Prop} (hS : SelAt k T0 T1 T2 Ts) (hl : s.heap.IsList l #[.ref T0, .ref T1, .ref T2]) (h : Q (.ref Ts) s)
    (hs : subscripted slice false (.ref l) (.int k u) = operate [.ref l, .int k u] (getItem (.ref l) (.int k u)) := by with_unfolding_all rfl) (hg : ∀ r, letTemporaryGo value (.ref l) r = pure () := by intro _; with_unfolding_all rfl) :
    wpAny (model prog w) A (subscriptTail value slice (.ref l) (.int k u)) Q E s := by
  refine item_list (x := .ref Ts) hl ?_ ?_ ?_ h hs hg
  all_goals rcases hS with ⟨rfl, rfl⟩ | ⟨rfl, rfl⟩ | ⟨rfl, rfl⟩
  all_goals first | decide | rfl
local macro_rules | `(tactic| k_room) => `(tactic| ((try simp only [depth_mark, depth_under_make, depth_under_kw, depth_in1, depth_deeper, depth_caller, recursionLimit]); omega))
local macro_rules | `(tactic| k_units) => `(tactic| ((try simp only [cLine, units_in1, units_deeper, Around.mark_units, units_caller]); omega))
local macro_rules | `(tactic| walk_at "call ref") => `(tactic| (k_here; (with_reducible show wpAny _ _ (call (Value.ref 234) _) _ _ _); refine stop_of ?_))
local macro_rules | `(tactic| walk_at "compareOp NotEq ref ref") => `(tactic| (k_here; (with_reducible show wpAny _ _ (compareOp CmpOp.NotEq (Value.ref _) (Value.ref _)) _ _ _); k_dflt (refine' ne_nil ?a ?b ?z ?u ?_; (case a => exact News.get (by k_asm) (by k_mem)); (case b => exact News.get (by k_asm) (by k_mem)); (case z => exact Nat.zero_lt_succ _); (case u => k_units); k_whole)))
local macro_rules | `(tactic| walk_at "call builtin:sorted") => `(tactic| (k_here; refine stop_of ?_))
local macro_rules | `(tactic| walk_at "subscriptTail Name Constant ref int") => `(tactic| (k_here; (with_reducible show wpAny _ _ (subscriptTail _ _ (Value.ref _) (Value.int _ _)) _ _ _); k_dflt (refine' item_litK ?k1 ?k2 ?k3 ?k4 ?_ ?k6; (case k1 => kmk_list); (case k2 => decide); (case k3 => decide); (case k4 => rfl); (case k6 => with_unfolding_all rfl); k_whole)))
local macro_rules | `(tactic| walk_at "subscriptTail Subscript") => `(tactic| (k_here; (with_reducible show wpAny _ _ (subscriptTail _ _ (Value.ref _) (Value.int _ _)) _ _ _); k_dflt (refine' item_tupleT ?t ?a ?b ?c ?d ?_; (case t => exact News.isTup (by k_asm) (by k_mem)); (case a => decide); (case b => decide); (case c => rfl); (case d => rfl); k_whole)))
local macro_rules | `(tactic| walk_at "subscriptTail") => `(tactic| (k_here; (rename SelAt _ _ _ _ _ => hS9); k_dflt (refine' item_sel hS9 ?l ?_; (case l => kmk_list); k_whole)))
set_option maxRecDepth 100000 in
set_option maxHeartbeats 8000000 in
theorem bnextC {w : World} {s s₀ : Shared} {h₀ : Heap} {L fa : Addr} {cdv : Value} {mg mb : Str → Option Value} {u : Str → Option Value} {Q : Flow → Shared → Prop} {E : Value → Shared → Prop} {mrest : List (Addr × Obj)} {P : List (Addr × Obj) → Prop}
  {M TL TM R dM H C : Addr} {now turn x : Int} {tknow tkturn tkkd tkx tk1 tk2 tk3 tk4 : Tok} {hs1 hs2 hs3 : Int} {rs : List Row3} {nR nM : Nat} {T0 T1 T2 : Addr} {u0 u1 u2 : Value} {W : Int} {Ts : Addr}
  (X : (hd.heap_39 w.params).In h₀) (T : T18 s₀ mg mb h₀)
  (F : Fr h₀ L s.heap (fun y => if y = Str.ofString "x" then some (.int x tkx) else if y = Str.ofString "kind" then some (.int 5 tkkd) else lawM M TL TM R now turn tknow tkturn u y))
  (hrs : ∀ r ∈ rs, (r.q, r.obj) ∈ mrest) (h3 : rs.length ≤ 3) (hc : rs.Pairwise fun a b => a.c ≠ b.c)
  (hM : ∀ p ∈ (M, instObj 244 dM) :: (dM, dictOf [⟨hs1, .str (Str.ofString "tasks") tk1, .ref H⟩, ⟨hs2, .str (Str.ofString "now") tk2, .int now tk3⟩, ⟨hs3, .str (Str.ofString "counter") tk4, .ref C⟩] 3) :: [], p ∈ mrest)
  (N : News h₀ L s.heap ((R, PySem.W.listOf (rrefs rs) nR) :: (TM, PySem.W.listOf #[u0, u1, u2] nM) :: (TL, PySem.W.listOf #[.ref T0, .ref T1, .ref T2] 0) :: mrest))
  (hcall : ∀ (s' : Shared) (m' : Str → Option Value) (lead : List (Addr × Obj)) (Q' : Value → Shared → Prop) (E' : Value → Shared → Prop), (∀ p ∈ lead, p.1 ∈ [R, TM, TL]) → Below callerA h₀ [] h₀ → Fr h₀ L s'.heap m' → News h₀ L s'.heap (lead ++ mrest) →
    (∀ (mrest' : List (Addr × Obj)) (Dt : Addr) (h' : Heap) (tk' : Tok), P mrest' → (∀ r ∈ rs, (r.q, r.obj) ∈ mrest') → Fr h₀ L h' m' → News h₀ L h' ((Dt, { cls := .type "tuple", data := .seq #[.ref Ts, .none] }) :: (lead ++ mrest')) → Q' (.ref Dt) { s' with heap := h', toks := tk' }) →
    wpAny (model Challenge.rw_fe0018_01.row.prog w) (callerA.deeper (lawEnv L fa cdv)) (call (.ref 234) [.ref M]) Q' E' s')
  (hsel : ∀ ds : List Row3, ds.Perm rs → Srt ds → ∃ d, ds = d :: [] ∧ d.w ≤ now ∧ SelAt d.k T0 T1 T2 Ts)
  (hQ : ∀ (mrest' : List (Addr × Obj)) (D : Addr) (d : Row3) (ds : List Row3) (nD : Nat) (u' : Str → Option Value) (h' : Heap) (tk' : Tok), P mrest' → (d :: ds).Perm rs → Srt (d :: ds) → (∀ r ∈ rs, (r.q, r.obj) ∈ mrest') → Fr h₀ L h' (lawM M TL TM D now turn tknow tkturn u') → News h₀ L h' ((D, PySem.W.listOf (rrefs ds) nD) :: (R, PySem.W.listOf (rrefs rs) nR) :: (TM, PySem.W.listOf #[u0, u1, u2] nM) :: (TL, PySem.W.listOf #[.ref T0, .ref T1, .ref T2] 0) :: mrest') → (∀ p ∈ (R, PySem.W.listOf (rrefs rs) nR) :: (TM, PySem.W.listOf #[u0, u1, u2] nM) :: (TL, PySem.W.listOf #[.ref T0, .ref T1, .ref T2] 0) :: mrest', p.1 < D) → Q .next { s with heap := h', toks := tk' })
  (B : Below callerA h₀ [] h₀)
  : wpAny (model Challenge.rw_fe0018_01.row.prog w) (callerA.deeper (lawEnv L fa cdv)) (exec loopIf (lawEnv L fa cdv)) Q E s := by
  have N0 := news_sub N (l' := (M, instObj 244 dM) :: (dM, dictOf [⟨hs1, .str (Str.ofString "tasks") tk1, .ref H⟩, ⟨hs2, .str (Str.ofString "now") tk2, .int now tk3⟩, ⟨hs3, .str (Str.ofString "counter") tk4, .ref C⟩] 3) :: (R, PySem.W.listOf (rrefs rs) nR) :: (TM, PySem.W.listOf #[u0, u1, u2] nM) :: (TL, PySem.W.listOf #[.ref T0, .ref T1, .ref T2] 0) :: mrest) (fun p hp => by
    simp only [List.mem_cons] at hp
    rcases hp with rfl | rfl | hp
    · exact List.mem_append_right [_, _, _] (hM _ (.head _))
    · exact List.mem_append_right [_, _, _] (hM _ (.tail _ (.head _)))
    · simp only [List.mem_cons]; exact hp)
  clear N
  revert X; k_fill; intro X
  dsimp only [loopIf, loopBody, loopStmt, lawEnv, lawScope, lawBody, lawDef, Challenge.pw_fe0018_01, List.getLastD, List.getLast?, List.getLast, List.getD, List.getElem?_cons_succ, List.getElem?_cons_zero, Option.getD, List.drop]
  try k_fold
  k_steps
  unfold Stop
  (rename Fr _ _ _ _ => F₅); (rename News _ _ _ _ => N₅)
  refine hcall _ _ [_, _, _] _ _ (fun p hp => ?_) B F₅ (fun p hp => N₅ p (.tail _ (.tail _ hp))) fun mrest' Dt h1 tk1 hP hrs1 F₆ N₆ => ?_
  · simp only [List.mem_cons, List.not_mem_nil, or_false] at hp ⊢
    rcases hp with rfl | rfl | rfl <;> simp
  simp only [List.cons_append, List.nil_append] at N₆
  clear F₅ N₅ hcall
  k_steps
  unfold Stop
  (rename Fr _ _ _ _ => F₇); (rename News _ _ _ _ => N₇)
  refine sorted_rows F₇ N₇ (by k_mem) (fun r hr => .tail _ (.tail _ (.tail _ (.tail _ (hrs1 r hr))))) h3 hc fun D ds c h2 hp hs F₈ N₈ lt8 => ?_
  have hin : ∀ r ∈ ds, (r.q, r.obj) ∈ mrest' := fun r hr => hrs1 r (hp.mem_iff.mp hr)
  obtain ⟨d, rfl, hdn, hk⟩ := hsel ds hp hs
  clear F₇ N₇
  have N₉ := news_sub N₈ (l' := (D, PySem.W.listOf (rrefs [d]) c) :: (d.q, d.obj) :: _) (fun p hp => by
    rcases List.mem_cons.mp hp with rfl | hp
    · exact .head _
    rcases List.mem_cons.mp hp with rfl | hp
    · exact .tail _ (.tail _ (.tail _ (.tail _ (.tail _ (hin _ (by simp))))))
    exact .tail _ hp)
  clear N₈
  k_steps
  (rename Fr _ _ _ _ => FB); (rename News _ _ _ _ => NB); (rename _ ∧ _ => lz); clear lz; (rename _ ∧ _ => lq)
  refine hQ mrest' _ d _ 0 _ _ _ hP hp hs hrs1 (fr_of FB (pinM (by exact rfl) (by exact rfl) (by exact rfl) (by exact rfl) (by exact rfl) (by exact rfl))) (news_sub NB (fun p hp => ?_)) (fun p hp => ?_)
  · simp only [List.mem_cons] at hp ⊢
    rcases hp with h | h | h | h | h
    · exact .inr (.inl h)
    all_goals simp [h]
  · obtain ⟨_, _, _, _, q1, q2, q3, q4⟩ := lq
    simp only [List.mem_cons] at hp
    rcases hp with rfl | rfl | rfl | hp
    · exact q1
    · exact q2
    · exact q3
    · exact ktn_ltOf q4 p hp
end Mine
end

section
open PySem PySem.W PyProof.Rows PySem.Calls
namespace Mine
local macro_rules | `(tactic| walk_at "idle line 0") => `(tactic| fail "idle")
local macro_rules | `(tactic| walk_at "idle line 1") => `(tactic| fail "idle")
local macro_rules | `(tactic| walk_at "idle line 2") => `(tactic| fail "idle")
local macro_rules | `(tactic| walk_at "idle line 3") => `(tactic| fail "idle")
local macro_rules | `(tactic| walk_at "idle line 4") => `(tactic| fail "idle")
local macro_rules | `(tactic| walk_at "idle line 5") => `(tactic| fail "idle")
local macro_rules | `(tactic| k_room) => `(tactic| ((try simp only [depth_mark, depth_under_make, depth_under_kw, depth_in1, depth_deeper, depth_caller, recursionLimit]); omega))
local macro_rules | `(tactic| k_units) => `(tactic| ((try simp only [cLine, units_in1, units_deeper, Around.mark_units, units_caller]); omega))
local macro_rules | `(tactic| walk_at "call ref") => `(tactic| (k_here; (with_reducible show wpAny _ _ (call (Value.ref 234) _) _ _ _); refine stop_of ?_))
local macro_rules | `(tactic| walk_at "compareOp NotEq ref ref") => `(tactic| (k_here; (with_reducible show wpAny _ _ (compareOp CmpOp.NotEq (Value.ref _) (Value.ref _)) _ _ _); k_dflt (refine' ne_nil ?a ?b ?z ?u ?_; (case a => exact News.get (by k_asm) (by k_mem)); (case b => exact News.get (by k_asm) (by k_mem)); (case z => exact Nat.zero_lt_succ _); (case u => k_units); k_whole)))
local macro_rules | `(tactic| walk_at "call builtin:sorted") => `(tactic| (k_here; refine stop_of ?_))
local macro_rules | `(tactic| walk_at "subscriptTail Name Constant ref int") => `(tactic| (k_here; (with_reducible show wpAny _ _ (subscriptTail _ _ (Value.ref _) (Value.int _ _)) _ _ _); k_dflt (refine' item_litK ?k1 ?k2 ?k3 ?k4 ?_ ?k6; (case k1 => kmk_list); (case k2 => decide); (case k3 => decide); (case k4 => rfl); (case k6 => with_unfolding_all rfl); k_whole)))
local macro_rules | `(tactic| walk_at "subscriptTail Subscript") => `(tactic| (k_here; (with_reducible show wpAny _ _ (subscriptTail _ _ (Value.ref _) (Value.int _ _)) _ _ _); k_dflt (refine' item_tupleT ?t ?a ?b ?c ?d ?_; (case t => exact News.isTup (by k_asm) (by k_mem)); (case a => decide); (case b => decide); (case c => rfl); (case d => rfl); k_whole)))
local macro_rules | `(tactic| walk_at "subscriptTail") => `(tactic| (k_here; (rename SelAt _ _ _ _ _ => hS9); k_dflt (refine' item_sel hS9 ?l ?_; (case l => kmk_list); k_whole)))
theorem fl0 : (Float64.cmpInt 0 0 != some Ordering.eq) = false := by kernel_rfl
set_option maxRecDepth 100000 in
set_option maxHeartbeats 8000000 in
theorem bnextDF2 {w : World} {s s₀ : Shared} {h₀ : Heap} {L fa : Addr} {cdv : Value} {mg mb : Str → Option Value} {u : Str → Option Value} {Q : Flow → Shared → Prop} {E : Value → Shared → Prop} {mrest : List (Addr × Obj)} {P : List (Addr × Obj) → Prop}
  {M TL TM R dM H C : Addr} {now turn x : Int} {tknow tkturn tkkd tkx tk1 tk2 tk3 tk4 : Tok} {hs1 hs2 hs3 : Int} {rs : List Row3} {nR nM : Nat} {T0 T1 T2 : Addr} {u0 u1 u2 : Value} {W : Int} {Ts : Addr}
  (X : (hd.heap_39 w.params).In h₀) (T : T18 s₀ mg mb h₀)
  (F : Fr h₀ L s.heap (fun y => if y = Str.ofString "x" then some (.int x tkx) else if y = Str.ofString "kind" then some (.int 5 tkkd) else lawM M TL TM R now turn tknow tkturn u y))
  (hrs : ∀ r ∈ rs, (r.q, r.obj) ∈ mrest) (h3 : rs.length ≤ 3) (hc : rs.Pairwise fun a b => a.c ≠ b.c)
  (hM : ∀ p ∈ (M, instObj 244 dM) :: (dM, dictOf [⟨hs1, .str (Str.ofString "tasks") tk1, .ref H⟩, ⟨hs2, .str (Str.ofString "now") tk2, .int now tk3⟩, ⟨hs3, .str (Str.ofString "counter") tk4, .ref C⟩] 3) :: [], p ∈ mrest)
  (N : News h₀ L s.heap ((R, PySem.W.listOf (rrefs rs) nR) :: (TM, PySem.W.listOf #[u0, u1, u2] nM) :: (TL, PySem.W.listOf #[.ref T0, .ref T1, .ref T2] 0) :: mrest))
  (hcall : ∀ (s' : Shared) (m' : Str → Option Value) (lead : List (Addr × Obj)) (Q' : Value → Shared → Prop) (E' : Value → Shared → Prop), (∀ p ∈ lead, p.1 ∈ [R, TM, TL]) → Below callerA h₀ [] h₀ → Fr h₀ L s'.heap m' → News h₀ L s'.heap (lead ++ mrest) →
    (∀ (mrest' : List (Addr × Obj)) (Dt : Addr) (h' : Heap) (tk' : Tok) (tv : Tok), P mrest' → (∀ r ∈ rs, (r.q, r.obj) ∈ mrest') → Fr h₀ L h' m' → News h₀ L h' ((Dt, { cls := .type "tuple", data := .seq #[.ref Ts, .float 0 tv] }) :: (lead ++ mrest')) → Q' (.ref Dt) { s' with heap := h', toks := tk' }) →
    wpAny (model Challenge.rw_fe0018_01.row.prog w) (callerA.deeper (lawEnv L fa cdv)) (call (.ref 234) [.ref M]) Q' E' s')
  (hWn : W < now)
  (hsel : ∀ ds : List Row3, ds.Perm rs → Srt ds → ∃ d d2 ds', ds = d :: d2 :: ds' ∧ d.w ≤ now ∧ d2.w = W ∧ ds'.length = 0 ∧ SelAt d.k T0 T1 T2 Ts)
  (hQ : ∀ (mrest' : List (Addr × Obj)) (D : Addr) (d : Row3) (ds : List Row3) (nD : Nat) (u' : Str → Option Value) (h' : Heap) (tk' : Tok), P mrest' → (d :: ds).Perm rs → Srt (d :: ds) → (∀ r ∈ rs, (r.q, r.obj) ∈ mrest') → Fr h₀ L h' (lawM M TL TM D now turn tknow tkturn u') → News h₀ L h' ((D, PySem.W.listOf (rrefs ds) nD) :: (R, PySem.W.listOf (rrefs rs) nR) :: (TM, PySem.W.listOf #[u0, u1, u2] nM) :: (TL, PySem.W.listOf #[.ref T0, .ref T1, .ref T2] 0) :: mrest') → (∀ p ∈ (R, PySem.W.listOf (rrefs rs) nR) :: (TM, PySem.W.listOf #[u0, u1, u2] nM) :: (TL, PySem.W.listOf #[.ref T0, .ref T1, .ref T2] 0) :: mrest', p.1 < D) → Q .next { s with heap := h', toks := tk' })
  (B : Below callerA h₀ [] h₀)
  : wpAny (model Challenge.rw_fe0018_01.row.prog w) (callerA.deeper (lawEnv L fa cdv)) (exec loopIf (lawEnv L fa cdv)) Q E s := by
  have N0 := news_sub N (l' := (M, instObj 244 dM) :: (dM, dictOf [⟨hs1, .str (Str.ofString "tasks") tk1, .ref H⟩, ⟨hs2, .str (Str.ofString "now") tk2, .int now tk3⟩, ⟨hs3, .str (Str.ofString "counter") tk4, .ref C⟩] 3) :: (R, PySem.W.listOf (rrefs rs) nR) :: (TM, PySem.W.listOf #[u0, u1, u2] nM) :: (TL, PySem.W.listOf #[.ref T0, .ref T1, .ref T2] 0) :: mrest) (fun p hp => by
    simp only [List.mem_cons] at hp
    rcases hp with rfl | rfl | hp
    · exact List.mem_append_right [_, _, _] (hM _ (.head _))
    · exact List.mem_append_right [_, _, _] (hM _ (.tail _ (.head _)))
    · simp only [List.mem_cons]; exact hp)
  clear N
  revert X; k_fill; intro X
  dsimp only [loopIf, loopBody, loopStmt, lawEnv, lawScope, lawBody, lawDef, Challenge.pw_fe0018_01, List.getLastD, List.getLast?, List.getLast, List.getD, List.getElem?_cons_succ, List.getElem?_cons_zero, Option.getD, List.drop]
  try k_fold
  k_steps
  unfold Stop
  (rename Fr _ _ _ _ => F₅); (rename News _ _ _ _ => N₅)
  refine hcall _ _ [_, _, _] _ _ (fun p hp => ?_) B F₅ (fun p hp => N₅ p (.tail _ (.tail _ hp))) fun mrest' Dt h1 tk1 tv hP hrs1 F₆ N₆ => ?_
  · simp only [List.mem_cons, List.not_mem_nil, or_false] at hp ⊢
    rcases hp with rfl | rfl | rfl <;> simp
  simp only [List.cons_append, List.nil_append] at N₆
  clear F₅ N₅ hcall
  k_steps
  unfold Stop
  (rename Fr _ _ _ _ => F₇); (rename News _ _ _ _ => N₇)
  refine sorted_rows F₇ N₇ (by k_mem) (fun r hr => .tail _ (.tail _ (.tail _ (.tail _ (hrs1 r hr))))) h3 hc fun D ds c h2 hp hs F₈ N₈ lt8 => ?_
  have hin : ∀ r ∈ ds, (r.q, r.obj) ∈ mrest' := fun r hr => hrs1 r (hp.mem_iff.mp hr)
  obtain ⟨d, d2, ds', rfl, hdn, hd2, hdl, hk⟩ := hsel ds hp hs
  obtain rfl := List.length_eq_zero_iff.mp hdl
  clear F₇ N₇
  have N₉ := news_sub N₈ (l' := (D, PySem.W.listOf (rrefs [d, d2]) c) :: (d.q, d.obj) :: (d2.q, d2.obj) :: _) (fun p hp => by
    rcases List.mem_cons.mp hp with rfl | hp
    · exact .head _
    rcases List.mem_cons.mp hp with rfl | hp
    · exact .tail _ (.tail _ (.tail _ (.tail _ (.tail _ (hin _ (by simp))))))
    rcases List.mem_cons.mp hp with rfl | hp
    · exact .tail _ (.tail _ (.tail _ (.tail _ (.tail _ (hin _ (by simp))))))
    exact .tail _ hp)
  clear N₈
  k_steps
  all_goals first
    | (exfalso; (rename (_ != _) = true => a9); rw [if_pos (by omega), fl0] at a9; cases a9)
    | skip
  (rename Fr _ _ _ _ => FB); (rename News _ _ _ _ => NB); (rename _ ∧ _ => lz); clear lz; (rename _ ∧ _ => lq)
  refine hQ mrest' _ d _ 0 _ _ _ hP hp hs hrs1 (fr_of FB (pinM (by exact rfl) (by exact rfl) (by exact rfl) (by exact rfl) (by exact rfl) (by exact rfl))) (news_sub NB (fun p hp => ?_)) (fun p hp => ?_)
  · simp only [List.mem_cons] at hp ⊢
    rcases hp with h | h | h | h | h
    · exact .inr (.inl h)
    all_goals simp [h]
  · obtain ⟨_, _, _, _, _, q1, q2, q3, q4⟩ := lq
    simp only [List.mem_cons] at hp
    rcases hp with rfl | rfl | rfl | hp
    · exact q1
    · exact q2
    · exact q3
    · exact ktn_ltOf q4 p hp
set_option maxRecDepth 100000 in
set_option maxHeartbeats 8000000 in
theorem bnextDF3 {w : World} {s s₀ : Shared} {h₀ : Heap} {L fa : Addr} {cdv : Value} {mg mb : Str → Option Value} {u : Str → Option Value} {Q : Flow → Shared → Prop} {E : Value → Shared → Prop} {mrest : List (Addr × Obj)} {P : List (Addr × Obj) → Prop}
  {M TL TM R dM H C : Addr} {now turn x : Int} {tknow tkturn tkkd tkx tk1 tk2 tk3 tk4 : Tok} {hs1 hs2 hs3 : Int} {rs : List Row3} {nR nM : Nat} {T0 T1 T2 : Addr} {u0 u1 u2 : Value} {W : Int} {Ts : Addr}
  (X : (hd.heap_39 w.params).In h₀) (T : T18 s₀ mg mb h₀)
  (F : Fr h₀ L s.heap (fun y => if y = Str.ofString "x" then some (.int x tkx) else if y = Str.ofString "kind" then some (.int 5 tkkd) else lawM M TL TM R now turn tknow tkturn u y))
  (hrs : ∀ r ∈ rs, (r.q, r.obj) ∈ mrest) (h3 : rs.length ≤ 3) (hc : rs.Pairwise fun a b => a.c ≠ b.c)
  (hM : ∀ p ∈ (M, instObj 244 dM) :: (dM, dictOf [⟨hs1, .str (Str.ofString "tasks") tk1, .ref H⟩, ⟨hs2, .str (Str.ofString "now") tk2, .int now tk3⟩, ⟨hs3, .str (Str.ofString "counter") tk4, .ref C⟩] 3) :: [], p ∈ mrest)
  (N : News h₀ L s.heap ((R, PySem.W.listOf (rrefs rs) nR) :: (TM, PySem.W.listOf #[u0, u1, u2] nM) :: (TL, PySem.W.listOf #[.ref T0, .ref T1, .ref T2] 0) :: mrest))
  (hcall : ∀ (s' : Shared) (m' : Str → Option Value) (lead : List (Addr × Obj)) (Q' : Value → Shared → Prop) (E' : Value → Shared → Prop), (∀ p ∈ lead, p.1 ∈ [R, TM, TL]) → Below callerA h₀ [] h₀ → Fr h₀ L s'.heap m' → News h₀ L s'.heap (lead ++ mrest) →
    (∀ (mrest' : List (Addr × Obj)) (Dt : Addr) (h' : Heap) (tk' : Tok) (tv : Tok), P mrest' → (∀ r ∈ rs, (r.q, r.obj) ∈ mrest') → Fr h₀ L h' m' → News h₀ L h' ((Dt, { cls := .type "tuple", data := .seq #[.ref Ts, .float 0 tv] }) :: (lead ++ mrest')) → Q' (.ref Dt) { s' with heap := h', toks := tk' }) →
    wpAny (model Challenge.rw_fe0018_01.row.prog w) (callerA.deeper (lawEnv L fa cdv)) (call (.ref 234) [.ref M]) Q' E' s')
  (hWn : W < now)
  (hsel : ∀ ds : List Row3, ds.Perm rs → Srt ds → ∃ d d2 ds', ds = d :: d2 :: ds' ∧ d.w ≤ now ∧ d2.w = W ∧ ds'.length = 1 ∧ SelAt d.k T0 T1 T2 Ts)
  (hQ : ∀ (mrest' : List (Addr × Obj)) (D : Addr) (d : Row3) (ds : List Row3) (nD : Nat) (u' : Str → Option Value) (h' : Heap) (tk' : Tok), P mrest' → (d :: ds).Perm rs → Srt (d :: ds) → (∀ r ∈ rs, (r.q, r.obj) ∈ mrest') → Fr h₀ L h' (lawM M TL TM D now turn tknow tkturn u') → News h₀ L h' ((D, PySem.W.listOf (rrefs ds) nD) :: (R, PySem.W.listOf (rrefs rs) nR) :: (TM, PySem.W.listOf #[u0, u1, u2] nM) :: (TL, PySem.W.listOf #[.ref T0, .ref T1, .ref T2] 0) :: mrest') → (∀ p ∈ (R, PySem.W.listOf (rrefs rs) nR) :: (TM, PySem.W.listOf #[u0, u1, u2] nM) :: (TL, PySem.W.listOf #[.ref T0, .ref T1, .ref T2] 0) :: mrest', p.1 < D) → Q .next { s with heap := h', toks := tk' })
  (B : Below callerA h₀ [] h₀)
  : wpAny (model Challenge.rw_fe0018_01.row.prog w) (callerA.deeper (lawEnv L fa cdv)) (exec loopIf (lawEnv L fa cdv)) Q E s := by
  have N0 := news_sub N (l' := (M, instObj 244 dM) :: (dM, dictOf [⟨hs1, .str (Str.ofString "tasks") tk1, .ref H⟩, ⟨hs2, .str (Str.ofString "now") tk2, .int now tk3⟩, ⟨hs3, .str (Str.ofString "counter") tk4, .ref C⟩] 3) :: (R, PySem.W.listOf (rrefs rs) nR) :: (TM, PySem.W.listOf #[u0, u1, u2] nM) :: (TL, PySem.W.listOf #[.ref T0, .ref T1, .ref T2] 0) :: mrest) (fun p hp => by
    simp only [List.mem_cons] at hp
    rcases hp with rfl | rfl | hp
    · exact List.mem_append_right [_, _, _] (hM _ (.head _))
    · exact List.mem_append_right [_, _, _] (hM _ (.tail _ (.head _)))
    · simp only [List.mem_cons]; exact hp)
  clear N
  revert X; k_fill; intro X
  dsimp only [loopIf, loopBody, loopStmt, lawEnv, lawScope, lawBody, lawDef, Challenge.pw_fe0018_01, List.getLastD, List.getLast?, List.getLast, List.getD, List.getElem?_cons_succ, List.getElem?_cons_zero, Option.getD, List.drop]
  try k_fold
  k_steps
  unfold Stop
  (rename Fr _ _ _ _ => F₅); (rename News _ _ _ _ => N₅)
  refine hcall _ _ [_, _, _] _ _ (fun p hp => ?_) B F₅ (fun p hp => N₅ p (.tail _ (.tail _ hp))) fun mrest' Dt h1 tk1 tv hP hrs1 F₆ N₆ => ?_
  · simp only [List.mem_cons, List.not_mem_nil, or_false] at hp ⊢
    rcases hp with rfl | rfl | rfl <;> simp
  simp only [List.cons_append, List.nil_append] at N₆
  clear F₅ N₅ hcall
  k_steps
  unfold Stop
  (rename Fr _ _ _ _ => F₇); (rename News _ _ _ _ => N₇)
  refine sorted_rows F₇ N₇ (by k_mem) (fun r hr => .tail _ (.tail _ (.tail _ (.tail _ (hrs1 r hr))))) h3 hc fun D ds c h2 hp hs F₈ N₈ lt8 => ?_
  have hin : ∀ r ∈ ds, (r.q, r.obj) ∈ mrest' := fun r hr => hrs1 r (hp.mem_iff.mp hr)
  obtain ⟨d, d2, ds', rfl, hdn, hd2, hdl, hk⟩ := hsel ds hp hs
  obtain ⟨d3, rfl⟩ := List.length_eq_one_iff.mp hdl
  clear F₇ N₇
  have N₉ := news_sub N₈ (l' := (D, PySem.W.listOf (rrefs [d, d2, d3]) c) :: (d.q, d.obj) :: (d2.q, d2.obj) :: (d3.q, d3.obj) :: _) (fun p hp => by
    rcases List.mem_cons.mp hp with rfl | hp
    · exact .head _
    rcases List.mem_cons.mp hp with rfl | hp
    · exact .tail _ (.tail _ (.tail _ (.tail _ (.tail _ (hin _ (by simp))))))
    rcases List.mem_cons.mp hp with rfl | hp
    · exact .tail _ (.tail _ (.tail _ (.tail _ (.tail _ (hin _ (by simp))))))
    rcases List.mem_cons.mp hp with rfl | hp
    · exact .tail _ (.tail _ (.tail _ (.tail _ (.tail _ (hin _ (by simp))))))
    exact .tail _ hp)
  clear N₈
  k_steps
  all_goals first
    | (exfalso; (rename (_ != _) = true => a9); rw [if_pos (by omega), fl0] at a9; cases a9)
    | skip
  (rename Fr _ _ _ _ => FB); (rename News _ _ _ _ => NB); (rename _ ∧ _ => lz); clear lz; (rename _ ∧ _ => lq)
  refine hQ mrest' _ d _ 0 _ _ _ hP hp hs hrs1 (fr_of FB (pinM (by exact rfl) (by exact rfl) (by exact rfl) (by exact rfl) (by exact rfl) (by exact rfl))) (news_sub NB (fun p hp => ?_)) (fun p hp => ?_)
  · simp only [List.mem_cons] at hp ⊢
    rcases hp with h | h | h | h | h
    · exact .inr (.inl h)
    all_goals simp [h]
  · obtain ⟨_, _, _, _, _, _, q1, q2, q3, q4⟩ := lq
    simp only [List.mem_cons] at hp
    rcases hp with rfl | rfl | rfl | hp
    · exact q1
    · exact q2
    · exact q3
    · exact ktn_ltOf q4 p hp
end Mine
end

section
open PySem PySem.W PyProof.Rows PySem.Calls
namespace Mine
local macro_rules | `(tactic| k_room) => `(tactic| ((try simp only [depth_mark, depth_under_make, depth_under_kw, depth_in1, depth_deeper, depth_caller, recursionLimit]); omega))
local macro_rules | `(tactic| k_units) => `(tactic| ((try simp only [cLine, units_in1, units_deeper, Around.mark_units, units_caller]); omega))
local macro_rules | `(tactic| walk_at "call ref") => `(tactic| (k_here; (with_reducible show wpAny _ _ (call (Value.ref 234) _) _ _ _); refine stop_of ?_))
local macro_rules | `(tactic| walk_at "compareOp NotEq ref ref") => `(tactic| (k_here; (with_reducible show wpAny _ _ (compareOp CmpOp.NotEq (Value.ref _) (Value.ref _)) _ _ _); k_dflt (refine' ne_nil ?a ?b ?z ?u ?_; (case a => exact News.get (by k_asm) (by k_mem)); (case b => exact News.get (by k_asm) (by k_mem)); (case z => exact Nat.zero_lt_succ _); (case u => k_units); k_whole)))
local macro_rules | `(tactic| walk_at "call builtin:sorted") => `(tactic| (k_here; refine stop_of ?_))
local macro_rules | `(tactic| walk_at "subscriptTail Name Constant ref int") => `(tactic| (k_here; (with_reducible show wpAny _ _ (subscriptTail _ _ (Value.ref _) (Value.int _ _)) _ _ _); k_dflt (refine' item_litK ?k1 ?k2 ?k3 ?k4 ?_ ?k6; (case k1 => kmk_list); (case k2 => decide); (case k3 => decide); (case k4 => rfl); (case k6 => with_unfolding_all rfl); k_whole)))
local macro_rules | `(tactic| walk_at "subscriptTail Subscript") => `(tactic| (k_here; (with_reducible show wpAny _ _ (subscriptTail _ _ (Value.ref _) (Value.int _ _)) _ _ _); k_dflt (refine' item_tupleT ?t ?a ?b ?c ?d ?_; (case t => exact News.isTup (by k_asm) (by k_mem)); (case a => decide); (case b => decide); (case c => rfl); (case d => rfl); k_whole)))
local macro_rules | `(tactic| walk_at "subscriptTail") => `(tactic| (k_here; (rename SelAt _ _ _ _ _ => hS9); k_dflt (refine' item_sel hS9 ?l ?_; (case l => kmk_list); k_whole)))
set_option maxRecDepth 100000 in
set_option maxHeartbeats 8000000 in
theorem bnextDI2 {w : World} {s s₀ : Shared} {h₀ : Heap} {L fa : Addr} {cdv : Value} {mg mb : Str → Option Value} {u : Str → Option Value} {Q : Flow → Shared → Prop} {E : Value → Shared → Prop} {mrest : List (Addr × Obj)} {P : List (Addr × Obj) → Prop}
  {M TL TM R dM H C : Addr} {now turn x : Int} {tknow tkturn tkkd tkx tk1 tk2 tk3 tk4 : Tok} {hs1 hs2 hs3 : Int} {rs : List Row3} {nR nM : Nat} {T0 T1 T2 : Addr} {u0 u1 u2 : Value} {W : Int} {Ts : Addr}
  (X : (hd.heap_39 w.params).In h₀) (T : T18 s₀ mg mb h₀)
  (F : Fr h₀ L s.heap (fun y => if y = Str.ofString "x" then some (.int x tkx) else if y = Str.ofString "kind" then some (.int 5 tkkd) else lawM M TL TM R now turn tknow tkturn u y))
  (hrs : ∀ r ∈ rs, (r.q, r.obj) ∈ mrest) (h3 : rs.length ≤ 3) (hc : rs.Pairwise fun a b => a.c ≠ b.c)
  (hM : ∀ p ∈ (M, instObj 244 dM) :: (dM, dictOf [⟨hs1, .str (Str.ofString "tasks") tk1, .ref H⟩, ⟨hs2, .str (Str.ofString "now") tk2, .int now tk3⟩, ⟨hs3, .str (Str.ofString "counter") tk4, .ref C⟩] 3) :: [], p ∈ mrest)
  (N : News h₀ L s.heap ((R, PySem.W.listOf (rrefs rs) nR) :: (TM, PySem.W.listOf #[u0, u1, u2] nM) :: (TL, PySem.W.listOf #[.ref T0, .ref T1, .ref T2] 0) :: mrest))
  (hcall : ∀ (s' : Shared) (m' : Str → Option Value) (lead : List (Addr × Obj)) (Q' : Value → Shared → Prop) (E' : Value → Shared → Prop), (∀ p ∈ lead, p.1 ∈ [R, TM, TL]) → Below callerA h₀ [] h₀ → Fr h₀ L s'.heap m' → News h₀ L s'.heap (lead ++ mrest) →
    (∀ (mrest' : List (Addr × Obj)) (Dt : Addr) (h' : Heap) (tk' : Tok) (tv : Tok), P mrest' → (∀ r ∈ rs, (r.q, r.obj) ∈ mrest') → Fr h₀ L h' m' → News h₀ L h' ((Dt, { cls := .type "tuple", data := .seq #[.ref Ts, .int (W - now) tv] }) :: (lead ++ mrest')) → Q' (.ref Dt) { s' with heap := h', toks := tk' }) →
    wpAny (model Challenge.rw_fe0018_01.row.prog w) (callerA.deeper (lawEnv L fa cdv)) (call (.ref 234) [.ref M]) Q' E' s')
  (hWn : now ≤ W)
  (hsel : ∀ ds : List Row3, ds.Perm rs → Srt ds → ∃ d d2 ds', ds = d :: d2 :: ds' ∧ d.w ≤ now ∧ d2.w = W ∧ ds'.length = 0 ∧ SelAt d.k T0 T1 T2 Ts)
  (hQ : ∀ (mrest' : List (Addr × Obj)) (D : Addr) (d : Row3) (ds : List Row3) (nD : Nat) (u' : Str → Option Value) (h' : Heap) (tk' : Tok), P mrest' → (d :: ds).Perm rs → Srt (d :: ds) → (∀ r ∈ rs, (r.q, r.obj) ∈ mrest') → Fr h₀ L h' (lawM M TL TM D now turn tknow tkturn u') → News h₀ L h' ((D, PySem.W.listOf (rrefs ds) nD) :: (R, PySem.W.listOf (rrefs rs) nR) :: (TM, PySem.W.listOf #[u0, u1, u2] nM) :: (TL, PySem.W.listOf #[.ref T0, .ref T1, .ref T2] 0) :: mrest') → (∀ p ∈ (R, PySem.W.listOf (rrefs rs) nR) :: (TM, PySem.W.listOf #[u0, u1, u2] nM) :: (TL, PySem.W.listOf #[.ref T0, .ref T1, .ref T2] 0) :: mrest', p.1 < D) → Q .next { s with heap := h', toks := tk' })
  (B : Below callerA h₀ [] h₀)
  : wpAny (model Challenge.rw_fe0018_01.row.prog w) (callerA.deeper (lawEnv L fa cdv)) (exec loopIf (lawEnv L fa cdv)) Q E s := by
  have N0 := news_sub N (l' := (M, instObj 244 dM) :: (dM, dictOf [⟨hs1, .str (Str.ofString "tasks") tk1, .ref H⟩, ⟨hs2, .str (Str.ofString "now") tk2, .int now tk3⟩, ⟨hs3, .str (Str.ofString "counter") tk4, .ref C⟩] 3) :: (R, PySem.W.listOf (rrefs rs) nR) :: (TM, PySem.W.listOf #[u0, u1, u2] nM) :: (TL, PySem.W.listOf #[.ref T0, .ref T1, .ref T2] 0) :: mrest) (fun p hp => by
    simp only [List.mem_cons] at hp
    rcases hp with rfl | rfl | hp
    · exact List.mem_append_right [_, _, _] (hM _ (.head _))
    · exact List.mem_append_right [_, _, _] (hM _ (.tail _ (.head _)))
    · simp only [List.mem_cons]; exact hp)
  clear N
  revert X; k_fill; intro X
  dsimp only [loopIf, loopBody, loopStmt, lawEnv, lawScope, lawBody, lawDef, Challenge.pw_fe0018_01, List.getLastD, List.getLast?, List.getLast, List.getD, List.getElem?_cons_succ, List.getElem?_cons_zero, Option.getD, List.drop]
  try k_fold
  k_steps
  unfold Stop
  (rename Fr _ _ _ _ => F₅); (rename News _ _ _ _ => N₅)
  refine hcall _ _ [_, _, _] _ _ (fun p hp => ?_) B F₅ (fun p hp => N₅ p (.tail _ (.tail _ hp))) fun mrest' Dt h1 tk1 tv hP hrs1 F₆ N₆ => ?_
  · simp only [List.mem_cons, List.not_mem_nil, or_false] at hp ⊢
    rcases hp with rfl | rfl | rfl <;> simp
  simp only [List.cons_append, List.nil_append] at N₆
  clear F₅ N₅ hcall
  k_steps
  unfold Stop
  (rename Fr _ _ _ _ => F₇); (rename News _ _ _ _ => N₇)
  refine sorted_rows F₇ N₇ (by k_mem) (fun r hr => .tail _ (.tail _ (.tail _ (.tail _ (hrs1 r hr))))) h3 hc fun D ds c h2 hp hs F₈ N₈ lt8 => ?_
  have hin : ∀ r ∈ ds, (r.q, r.obj) ∈ mrest' := fun r hr => hrs1 r (hp.mem_iff.mp hr)
  obtain ⟨d, d2, ds', rfl, hdn, hd2, hdl, hk⟩ := hsel ds hp hs
  obtain rfl := List.length_eq_zero_iff.mp hdl
  clear F₇ N₇
  have N₉ := news_sub N₈ (l' := (D, PySem.W.listOf (rrefs [d, d2]) c) :: (d.q, d.obj) :: (d2.q, d2.obj) :: _) (fun p hp => by
    rcases List.mem_cons.mp hp with rfl | hp
    · exact .head _
    rcases List.mem_cons.mp hp with rfl | hp
    · exact .tail _ (.tail _ (.tail _ (.tail _ (.tail _ (hin _ (by simp))))))
    rcases List.mem_cons.mp hp with rfl | hp
    · exact .tail _ (.tail _ (.tail _ (.tail _ (.tail _ (hin _ (by simp))))))
    exact .tail _ hp)
  clear N₈
  k_steps
  all_goals first
    | (exfalso; (rename _ ≠ ite _ _ _ => a9); split at a9 <;> omega)
    | skip
  (rename Fr _ _ _ _ => FB); (rename News _ _ _ _ => NB); (rename _ ∧ _ => lz); clear lz; (rename _ ∧ _ => lq)
  refine hQ mrest' _ d _ 0 _ _ _ hP hp hs hrs1 (fr_of FB (pinM (by exact rfl) (by exact rfl) (by exact rfl) (by exact rfl) (by exact rfl) (by exact rfl))) (news_sub NB (fun p hp => ?_)) (fun p hp => ?_)
  · simp only [List.mem_cons] at hp ⊢
    rcases hp with h | h | h | h | h
    · exact .inr (.inl h)
    all_goals simp [h]
  · obtain ⟨_, _, _, _, _, q1, q2, q3, q4⟩ := lq
    simp only [List.mem_cons] at hp
    rcases hp with rfl | rfl | rfl | hp
    · exact q1
    · exact q2
    · exact q3
    · exact ktn_ltOf q4 p hp
set_option maxRecDepth 100000 in
set_option maxHeartbeats 8000000 in
theorem bnextDI3 {w : World} {s s₀ : Shared} {h₀ : Heap} {L fa : Addr} {cdv : Value} {mg mb : Str → Option Value} {u : Str → Option Value} {Q : Flow → Shared → Prop} {E : Value → Shared → Prop} {mrest : List (Addr × Obj)} {P : List (Addr × Obj) → Prop}
  {M TL TM R dM H C : Addr} {now turn x : Int} {tknow tkturn tkkd tkx tk1 tk2 tk3 tk4 : Tok} {hs1 hs2 hs3 : Int} {rs : List Row3} {nR nM : Nat} {T0 T1 T2 : Addr} {u0 u1 u2 : Value} {W : Int} {Ts : Addr}
  (X : (hd.heap_39 w.params).In h₀) (T : T18 s₀ mg mb h₀)
  (F : Fr h₀ L s.heap (fun y => if y = Str.ofString "x" then some (.int x tkx) else if y = Str.ofString "kind" then some (.int 5 tkkd) else lawM M TL TM R now turn tknow tkturn u y))
  (hrs : ∀ r ∈ rs, (r.q, r.obj) ∈ mrest) (h3 : rs.length ≤ 3) (hc : rs.Pairwise fun a b => a.c ≠ b.c)
  (hM : ∀ p ∈ (M, instObj 244 dM) :: (dM, dictOf [⟨hs1, .str (Str.ofString "tasks") tk1, .ref H⟩, ⟨hs2, .str (Str.ofString "now") tk2, .int now tk3⟩, ⟨hs3, .str (Str.ofString "counter") tk4, .ref C⟩] 3) :: [], p ∈ mrest)
  (N : News h₀ L s.heap ((R, PySem.W.listOf (rrefs rs) nR) :: (TM, PySem.W.listOf #[u0, u1, u2] nM) :: (TL, PySem.W.listOf #[.ref T0, .ref T1, .ref T2] 0) :: mrest))
  (hcall : ∀ (s' : Shared) (m' : Str → Option Value) (lead : List (Addr × Obj)) (Q' : Value → Shared → Prop) (E' : Value → Shared → Prop), (∀ p ∈ lead, p.1 ∈ [R, TM, TL]) → Below callerA h₀ [] h₀ → Fr h₀ L s'.heap m' → News h₀ L s'.heap (lead ++ mrest) →
    (∀ (mrest' : List (Addr × Obj)) (Dt : Addr) (h' : Heap) (tk' : Tok) (tv : Tok), P mrest' → (∀ r ∈ rs, (r.q, r.obj) ∈ mrest') → Fr h₀ L h' m' → News h₀ L h' ((Dt, { cls := .type "tuple", data := .seq #[.ref Ts, .int (W - now) tv] }) :: (lead ++ mrest')) → Q' (.ref Dt) { s' with heap := h', toks := tk' }) →
    wpAny (model Challenge.rw_fe0018_01.row.prog w) (callerA.deeper (lawEnv L fa cdv)) (call (.ref 234) [.ref M]) Q' E' s')
  (hWn : now ≤ W)
  (hsel : ∀ ds : List Row3, ds.Perm rs → Srt ds → ∃ d d2 ds', ds = d :: d2 :: ds' ∧ d.w ≤ now ∧ d2.w = W ∧ ds'.length = 1 ∧ SelAt d.k T0 T1 T2 Ts)
  (hQ : ∀ (mrest' : List (Addr × Obj)) (D : Addr) (d : Row3) (ds : List Row3) (nD : Nat) (u' : Str → Option Value) (h' : Heap) (tk' : Tok), P mrest' → (d :: ds).Perm rs → Srt (d :: ds) → (∀ r ∈ rs, (r.q, r.obj) ∈ mrest') → Fr h₀ L h' (lawM M TL TM D now turn tknow tkturn u') → News h₀ L h' ((D, PySem.W.listOf (rrefs ds) nD) :: (R, PySem.W.listOf (rrefs rs) nR) :: (TM, PySem.W.listOf #[u0, u1, u2] nM) :: (TL, PySem.W.listOf #[.ref T0, .ref T1, .ref T2] 0) :: mrest') → (∀ p ∈ (R, PySem.W.listOf (rrefs rs) nR) :: (TM, PySem.W.listOf #[u0, u1, u2] nM) :: (TL, PySem.W.listOf #[.ref T0, .ref T1, .ref T2] 0) :: mrest', p.1 < D) → Q .next { s with heap := h', toks := tk' })
  (B : Below callerA h₀ [] h₀)
  : wpAny (model Challenge.rw_fe0018_01.row.prog w) (callerA.deeper (lawEnv L fa cdv)) (exec loopIf (lawEnv L fa cdv)) Q E s := by
  have N0 := news_sub N (l' := (M, instObj 244 dM) :: (dM, dictOf [⟨hs1, .str (Str.ofString "tasks") tk1, .ref H⟩, ⟨hs2, .str (Str.ofString "now") tk2, .int now tk3⟩, ⟨hs3, .str (Str.ofString "counter") tk4, .ref C⟩] 3) :: (R, PySem.W.listOf (rrefs rs) nR) :: (TM, PySem.W.listOf #[u0, u1, u2] nM) :: (TL, PySem.W.listOf #[.ref T0, .ref T1, .ref T2] 0) :: mrest) (fun p hp => by
    simp only [List.mem_cons] at hp
    rcases hp with rfl | rfl | hp
    · exact List.mem_append_right [_, _, _] (hM _ (.head _))
    · exact List.mem_append_right [_, _, _] (hM _ (.tail _ (.head _)))
    · simp only [List.mem_cons]; exact hp)
  clear N
  revert X; k_fill; intro X
  dsimp only [loopIf, loopBody, loopStmt, lawEnv, lawScope, lawBody, lawDef, Challenge.pw_fe0018_01, List.getLastD, List.getLast?, List.getLast, List.getD, List.getElem?_cons_succ, List.getElem?_cons_zero, Option.getD, List.drop]
  try k_fold
  k_steps
  unfold Stop
  (rename Fr _ _ _ _ => F₅); (rename News _ _ _ _ => N₅)
  refine hcall _ _ [_, _, _] _ _ (fun p hp => ?_) B F₅ (fun p hp => N₅ p (.tail _ (.tail _ hp))) fun mrest' Dt h1 tk1 tv hP hrs1 F₆ N₆ => ?_
  · simp only [List.mem_cons, List.not_mem_nil, or_false] at hp ⊢
    rcases hp with rfl | rfl | rfl <;> simp
  simp only [List.cons_append, List.nil_append] at N₆
  clear F₅ N₅ hcall
  k_steps
  unfold Stop
  (rename Fr _ _ _ _ => F₇); (rename News _ _ _ _ => N₇)
  refine sorted_rows F₇ N₇ (by k_mem) (fun r hr => .tail _ (.tail _ (.tail _ (.tail _ (hrs1 r hr))))) h3 hc fun D ds c h2 hp hs F₈ N₈ lt8 => ?_
  have hin : ∀ r ∈ ds, (r.q, r.obj) ∈ mrest' := fun r hr => hrs1 r (hp.mem_iff.mp hr)
  obtain ⟨d, d2, ds', rfl, hdn, hd2, hdl, hk⟩ := hsel ds hp hs
  obtain ⟨d3, rfl⟩ := List.length_eq_one_iff.mp hdl
  clear F₇ N₇
  have N₉ := news_sub N₈ (l' := (D, PySem.W.listOf (rrefs [d, d2, d3]) c) :: (d.q, d.obj) :: (d2.q, d2.obj) :: (d3.q, d3.obj) :: _) (fun p hp => by
    rcases List.mem_cons.mp hp with rfl | hp
    · exact .head _
    rcases List.mem_cons.mp hp with rfl | hp
    · exact .tail _ (.tail _ (.tail _ (.tail _ (.tail _ (hin _ (by simp))))))
    rcases List.mem_cons.mp hp with rfl | hp
    · exact .tail _ (.tail _ (.tail _ (.tail _ (.tail _ (hin _ (by simp))))))
    rcases List.mem_cons.mp hp with rfl | hp
    · exact .tail _ (.tail _ (.tail _ (.tail _ (.tail _ (hin _ (by simp))))))
    exact .tail _ hp)
  clear N₈
  k_steps
  all_goals first
    | (exfalso; (rename _ ≠ ite _ _ _ => a9); split at a9 <;> omega)
    | skip
  (rename Fr _ _ _ _ => FB); (rename News _ _ _ _ => NB); (rename _ ∧ _ => lz); clear lz; (rename _ ∧ _ => lq)
  refine hQ mrest' _ d _ 0 _ _ _ hP hp hs hrs1 (fr_of FB (pinM (by exact rfl) (by exact rfl) (by exact rfl) (by exact rfl) (by exact rfl) (by exact rfl))) (news_sub NB (fun p hp => ?_)) (fun p hp => ?_)
  · simp only [List.mem_cons] at hp ⊢
    rcases hp with h | h | h | h | h
    · exact .inr (.inl h)
    all_goals simp [h]
  · obtain ⟨_, _, _, _, _, _, q1, q2, q3, q4⟩ := lq
    simp only [List.mem_cons] at hp
    rcases hp with rfl | rfl | rfl | hp
    · exact q1
    · exact q2
    · exact q3
    · exact ktn_ltOf q4 p hp
end Mine
end

section
open PySem PySem.W PyProof.Rows PySem.Calls
set_option maxRecDepth 100000
set_option maxHeartbeats 4000000
namespace Mine
/-- what stays: where the manager's parts lie -/
structure Cst where
  M : Addr
  dM : Addr
  H : Addr
  C : Addr
  dC : Addr
  hs1 : Int
  hs2 : Int
  hs3 : Int
  tk1 : Tok
  tk2 : Tok
  tk4 : Tok
  stp : Tok
  ext : List (Addr × Obj)
abbrev Cst.hp (c : Cst) (es : List Ent) (nH : Nat) : Addr × Obj := (c.H, listOf (refs es) nH)
abbrev Cst.mi (c : Cst) : Addr × Obj := (c.M, instObj 244 c.dM)
abbrev Cst.md (c : Cst) (now : Int) (tk3 : Tok) : Addr × Obj := (c.dM, dictOf [⟨c.hs1, .str (Str.ofString "tasks") c.tk1, .ref c.H⟩, ⟨c.hs2, .str (Str.ofString "now") c.tk2, .int now tk3⟩, ⟨c.hs3, .str (Str.ofString "counter") c.tk4, .ref c.C⟩] 3)
abbrev Cst.ci (c : Cst) (cnt : Int) (tkc : Tok) : Addr × Obj := (c.C, cntObj c.dC cnt tkc c.stp)
abbrev Cst.cd (c : Cst) : Addr × Obj := (c.dC, dictOf [] 0)
/-- the manager's part of the ledger, one task in front -/
abbrev ML (c : Cst) (es : List Ent) (nH : Nat) (now : Int) (tk3 : Tok) (cnt : Int) (tkc : Tok) (t : Tsk) (oth : List (Addr × Obj)) : List (Addr × Obj) :=
  c.hp es nH :: c.mi :: c.md now tk3 :: t.ti :: t.di c.M :: c.ci cnt tkc :: c.cd :: oth
structure Nes (c : Cst) (T d : Addr) : Prop where
  n1 : @Ne Nat c.M c.H
  n2 : @Ne Nat c.dM c.H
  n3 : @Ne Nat T c.H
  n4 : @Ne Nat d c.H
  n5 : @Ne Nat c.M d
  n6 : @Ne Nat c.dM d
  n7 : @Ne Nat T d
  n8 : @Ne Nat c.C c.H
  n9 : @Ne Nat c.C d
  n10 : @Ne Nat c.dC c.H
  n11 : @Ne Nat c.dC d
  n12 : @Ne Nat c.M c.C
  n13 : @Ne Nat c.dM c.C
  n14 : @Ne Nat T c.C
  n15 : @Ne Nat c.dC c.C
theorem ne_of_news {h₀ h : Heap} {L : Addr} {news : List (Addr × Obj)} (N : News h₀ L h news) {a b : Addr} {oa ob : Obj} (ha : (a, oa) ∈ news) (hb : (b, ob) ∈ news) (h1 : oa ≠ ob) : a ≠ b := by
  rintro rfl
  have x := (N _ ha).1; have y := (N _ hb).1
  exact h1 (Option.some.inj (x.symm.trans y))
theorem ne_cls {oa ob : Obj} (h : oa.cls ≠ ob.cls) : oa ≠ ob := fun e => h (e ▸ rfl)
/-- what an install leaves -/
def PI (c : Cst) (es : List Ent) (now : Int) (tk3 : Tok) (cnt : Int) (t : Tsk) (oth : List (Addr × Obj)) (W : Int) (m : List (Addr × Obj)) : Prop :=
  ∃ q es1 nH tkc tW, q.w = W ∧ q.c = cnt ∧ q.t = t.T ∧ (t.b = false ∧ es1 = es ∨ t.b = true ∧ ∃ i x, es[i]? = some x ∧ x.t = t.T ∧ (∀ j y, j < i → es[j]? = some y → y.t ≠ t.T) ∧ es1 = hpf (es.eraseIdx i)) ∧
    m = ML c (psh es1 q) nH now tk3 (cnt + 1) tkc { t with v := .int W tW, b := true } ((q.q, q.obj) :: oth)
theorem off_of {l : List (Addr × Obj)} {as : List Addr} (h : ∀ p ∈ l, ∀ b ∈ as, p.1 ≠ b) : OwnOff l as := h
section
variable {w : World} {s s₀ : Shared} {h₀ : Heap} {L fa : Addr} {cdv : Value} {mg mb : Str → Option Value} {R TM TL : Addr} {rs : List Row3} {c : Cst} {es : List Ent} {nH : Nat} {now cnt x : Int} {tk3 tkc : Tok} {t : Tsk} {oth : List (Addr × Obj)}
structure Ctx18 (c : Cst) (es : List Ent) (cnt : Int) (t : Tsk) (oth : List (Addr × Obj)) (rs : List Row3) (lead : List Addr) : Prop where
  ne : Nes c t.T t.d
  off : OwnOff oth [c.H, t.d, c.C]
  lead : ∀ a ∈ lead, ∀ b ∈ [c.H, t.d, c.C], a ≠ b
  hpw : es.Pairwise fun a b => a.c ≠ b.c
  hes : ∀ x ∈ es, (x.q, x.obj) ∈ oth
  hrs : ∀ r ∈ rs, (r.q, r.obj) ∈ oth
  hes3 : es.length ≤ 3
  hts : ∀ x ∈ es, ∃ dx, (x.t, instObj 123 dx) ∈ t.ti :: oth
  hcnt : ∀ x ∈ es, x.c < cnt
  hb0 : t.b = false → es.length ≤ 2
  hb1 : t.b = true → ∃ x ∈ es, x.t = t.T
theorem Ctx18.offl {la : List Addr} (K : Ctx18 c es cnt t oth rs la) {lead : List (Addr × Obj)} (hl : ∀ p ∈ lead, p.1 ∈ la) : OwnOff (lead ++ oth) [c.H, t.d, c.C] := fun p hp b hb => by
  rcases List.mem_append.mp hp with h | h
  · exact K.lead _ (hl p h) b hb
  · exact K.off p h b hb
theorem sub_in {lead pre oth : List (Addr × Obj)} : ∀ p ∈ pre ++ (lead ++ oth), p ∈ lead ++ (pre ++ oth) := fun p hp => by
  simp only [List.mem_append] at hp ⊢
  rcases hp with h | h | h <;> simp [h]
theorem sub_out {lead pre oth : List (Addr × Obj)} : ∀ p ∈ lead ++ (pre ++ oth), p ∈ pre ++ (lead ++ oth) := fun p hp => by
  simp only [List.mem_append] at hp ⊢
  rcases hp with h | h | h <;> simp [h]
theorem pv0 (X : (hd.heap_39 w.params).In h₀) (T : T18 s₀ mg mb h₀) (K : Ctx18 c es cnt t oth rs [R, TM, TL, L + 1 + 1, L + 1]) {us : Array Value} {nM : Nat} (hTM : OwnOff (ML c es nH now tk3 cnt tkc t oth) [TM]) (s' : Shared) (m' : Str → Option Value) (lead : List (Addr × Obj)) (tkh tkx' : Tok) (Q' : Value → Shared → Prop) (E' : Value → Shared → Prop)
    (hl : ∀ p ∈ lead, p.1 ∈ [R, TM, TL, L + 1 + 1, L + 1]) (hm : (TM, PySem.W.listOf us nM) ∈ lead) (B : Below callerA h₀ [] h₀) (F : Fr h₀ L s'.heap m') (N : News h₀ L s'.heap (lead ++ ML c es nH now tk3 cnt tkc t oth))
    (h : ∀ (mrest' : List (Addr × Obj)) (h' : Heap) (tk' : Tok), PI c es now tk3 cnt t oth x mrest' → OwnOff mrest' [TM] → (∀ r ∈ rs, (r.q, r.obj) ∈ mrest') → Fr h₀ L h' m' → News h₀ L h' (lead ++ mrest') → Q' (.bool true) { s' with heap := h', toks := tk' }) :
    wpAny (model Challenge.rw_fe0018_01.row.prog w) (callerA.deeper (lawEnv L fa cdv)) (call (.ref 255) [.ref t.T, .int 0 tkh, .int x tkx']) Q' E' s' := by
  have N1 := news_sub N (l' := c.hp es nH :: c.mi :: c.md now tk3 :: t.ti :: t.di c.M :: c.ci cnt tkc :: c.cd :: (lead ++ oth)) (sub_in (pre := [_, _, _, _, _, _, _]))
  refine linst0 (env := lawEnv L fa cdv) (outer := []) (rest := lead ++ oth) (es := es) (W := 0) (tkv := tk3) (t := t.T) (dt := t.d) (bt := t.b) (by decide) (by decide) rfl rfl B X T F K.ne.n1 K.ne.n2 K.ne.n3 K.ne.n4 K.ne.n5 K.ne.n6 K.ne.n7 K.ne.n8 K.ne.n9 K.ne.n10 K.ne.n11 K.ne.n12 K.ne.n13 K.ne.n14 K.ne.n15 (K.offl hl) K.hpw
    (fun x hx => List.mem_append_right _ (K.hes x hx)) K.hes3 (fun x hx => ?_) K.hcnt K.hb0 K.hb1 N1 fun q es1 nH' h' tk' tkc' tkW h1 h2 h3 h4 F' N' => ?_
  · obtain ⟨dx, hd⟩ := K.hts x hx
    refine ⟨dx, ?_⟩
    rcases List.mem_cons.mp hd with e | e
    · exact e ▸ .head _
    · exact .tail _ (List.mem_append_right _ e)
  · refine h _ h' tk' ⟨q, es1, nH', tkc', tkW, h1, h2, h3, h4, rfl⟩ (fun p hp b hb => ?_) (fun r hr => .tail _ (.tail _ (.tail _ (.tail _ (.tail _ (.tail _ (.tail _ (.tail _ (K.hrs r hr))))))))) F' (news_sub N' fun p hp => ?_)
    · obtain rfl := List.mem_singleton.mp hb
      have hq : q.q ≠ b := ne_of_news N' (.tail _ (.head _)) (.tail _ (.tail _ (.tail _ (.tail _ (.tail _ (.tail _ (.tail _ (.tail _ (List.mem_append_left _ hm))))))))) (ne_cls (by simp))
      have ho : ∀ p ∈ oth, p.1 ≠ b := fun p hp => hTM p (.tail _ (.tail _ (.tail _ (.tail _ (.tail _ (.tail _ (.tail _ hp))))))) b (.head _)
      simp only [List.mem_cons] at hp
      rcases hp with rfl | rfl | rfl | rfl | rfl | rfl | rfl | rfl | hp
      · exact hTM _ (.head _) b (.head _)
      · exact hTM _ (.tail _ (.head _)) b (.head _)
      · exact hTM _ (.tail _ (.tail _ (.head _))) b (.head _)
      · exact hTM _ (.tail _ (.tail _ (.tail _ (.head _)))) b (.head _)
      · exact hTM _ (.tail _ (.tail _ (.tail _ (.tail _ (.head _))))) b (.head _)
      · exact hTM _ (.tail _ (.tail _ (.tail _ (.tail _ (.tail _ (.head _)))))) b (.head _)
      · exact hTM _ (.tail _ (.tail _ (.tail _ (.tail _ (.tail _ (.tail _ (.head _))))))) b (.head _)
      · exact hq
      · exact ho p hp
    · simp only [List.mem_append, List.mem_cons] at hp ⊢
      rcases hp with h | h | h | h | h | h | h | h | h | h <;> simp only [h, true_or, or_true]
theorem pv1 (X : (hd.heap_39 w.params).In h₀) (T : T18 s₀ mg mb h₀) (K : Ctx18 c es cnt t oth rs [R, TM, TL, L + 1 + 1, L + 1]) {us : Array Value} {nM : Nat} (hTM : OwnOff (ML c es nH now tk3 cnt tkc t oth) [TM]) (s' : Shared) (m' : Str → Option Value) (lead : List (Addr × Obj)) (tkh tkx' : Tok) (Q' : Value → Shared → Prop) (E' : Value → Shared → Prop)
    (hl : ∀ p ∈ lead, p.1 ∈ [R, TM, TL, L + 1 + 1, L + 1]) (hm : (TM, PySem.W.listOf us nM) ∈ lead) (B : Below callerA h₀ [] h₀) (F : Fr h₀ L s'.heap m') (N : News h₀ L s'.heap (lead ++ ML c es nH now tk3 cnt tkc t oth))
    (h : ∀ (mrest' : List (Addr × Obj)) (h' : Heap) (tk' : Tok), PI c es now tk3 cnt t oth (now + x) mrest' → OwnOff mrest' [TM] → (∀ r ∈ rs, (r.q, r.obj) ∈ mrest') → Fr h₀ L h' m' → News h₀ L h' (lead ++ mrest') → Q' (.bool true) { s' with heap := h', toks := tk' }) :
    wpAny (model Challenge.rw_fe0018_01.row.prog w) (callerA.deeper (lawEnv L fa cdv)) (call (.ref 255) [.ref t.T, .int 1 tkh, .int x tkx']) Q' E' s' := by
  have N1 := news_sub N (l' := c.hp es nH :: c.mi :: c.md now tk3 :: t.ti :: t.di c.M :: c.ci cnt tkc :: c.cd :: (lead ++ oth)) (sub_in (pre := [_, _, _, _, _, _, _]))
  refine linst1 (env := lawEnv L fa cdv) (outer := []) (rest := lead ++ oth) (es := es) (W := 0) (tkv := tk3) (t := t.T) (dt := t.d) (bt := t.b) (by decide) (by decide) rfl rfl B X T F K.ne.n1 K.ne.n2 K.ne.n3 K.ne.n4 K.ne.n5 K.ne.n6 K.ne.n7 K.ne.n8 K.ne.n9 K.ne.n10 K.ne.n11 K.ne.n12 K.ne.n13 K.ne.n14 K.ne.n15 (K.offl hl) K.hpw
    (fun x hx => List.mem_append_right _ (K.hes x hx)) K.hes3 (fun x hx => ?_) K.hcnt K.hb0 K.hb1 N1 fun q es1 nH' h' tk' tkc' tkW h1 h2 h3 h4 F' N' => ?_
  · obtain ⟨dx, hd⟩ := K.hts x hx
    refine ⟨dx, ?_⟩
    rcases List.mem_cons.mp hd with e | e
    · exact e ▸ .head _
    · exact .tail _ (List.mem_append_right _ e)
  · refine h _ h' tk' ⟨q, es1, nH', tkc', tkW, h1, h2, h3, h4, rfl⟩ (fun p hp b hb => ?_) (fun r hr => .tail _ (.tail _ (.tail _ (.tail _ (.tail _ (.tail _ (.tail _ (.tail _ (K.hrs r hr))))))))) F' (news_sub N' fun p hp => ?_)
    · obtain rfl := List.mem_singleton.mp hb
      have hq : q.q ≠ b := ne_of_news N' (.tail _ (.head _)) (.tail _ (.tail _ (.tail _ (.tail _ (.tail _ (.tail _ (.tail _ (.tail _ (List.mem_append_left _ hm))))))))) (ne_cls (by simp))
      have ho : ∀ p ∈ oth, p.1 ≠ b := fun p hp => hTM p (.tail _ (.tail _ (.tail _ (.tail _ (.tail _ (.tail _ (.tail _ hp))))))) b (.head _)
      simp only [List.mem_cons] at hp
      rcases hp with rfl | rfl | rfl | rfl | rfl | rfl | rfl | rfl | hp
      · exact hTM _ (.head _) b (.head _)
      · exact hTM _ (.tail _ (.head _)) b (.head _)
      · exact hTM _ (.tail _ (.tail _ (.head _))) b (.head _)
      · exact hTM _ (.tail _ (.tail _ (.tail _ (.head _)))) b (.head _)
      · exact hTM _ (.tail _ (.tail _ (.tail _ (.tail _ (.head _))))) b (.head _)
      · exact hTM _ (.tail _ (.tail _ (.tail _ (.tail _ (.tail _ (.head _)))))) b (.head _)
      · exact hTM _ (.tail _ (.tail _ (.tail _ (.tail _ (.tail _ (.tail _ (.head _))))))) b (.head _)
      · exact hq
      · exact ho p hp
    · simp only [List.mem_append, List.mem_cons] at hp ⊢
      rcases hp with h | h | h | h | h | h | h | h | h | h <;> simp only [h, true_or, or_true]
theorem pv2 (X : (hd.heap_39 w.params).In h₀) (T : T18 s₀ mg mb h₀) (K : Ctx18 c es cnt t oth rs [R, TM, TL, L + 1 + 1, L + 1]) {us : Array Value} {W : Int} {tkW0 : Tok} {nM : Nat} (hTM : OwnOff (ML c es nH now tk3 cnt tkc { t with v := .int W tkW0 } oth) [TM]) (s' : Shared) (m' : Str → Option Value) (lead : List (Addr × Obj)) (tkh tkx' : Tok) (Q' : Value → Shared → Prop) (E' : Value → Shared → Prop)
    (hl : ∀ p ∈ lead, p.1 ∈ [R, TM, TL, L + 1 + 1, L + 1]) (hm : (TM, PySem.W.listOf us nM) ∈ lead) (B : Below callerA h₀ [] h₀) (F : Fr h₀ L s'.heap m') (N : News h₀ L s'.heap (lead ++ ML c es nH now tk3 cnt tkc { t with v := .int W tkW0 } oth))
    (h : ∀ (mrest' : List (Addr × Obj)) (h' : Heap) (tk' : Tok), PI c es now tk3 cnt { t with v := .int W tkW0 } oth W mrest' → OwnOff mrest' [TM] → (∀ r ∈ rs, (r.q, r.obj) ∈ mrest') → Fr h₀ L h' m' → News h₀ L h' (lead ++ mrest') → Q' (.bool true) { s' with heap := h', toks := tk' }) :
    wpAny (model Challenge.rw_fe0018_01.row.prog w) (callerA.deeper (lawEnv L fa cdv)) (call (.ref 255) [.ref t.T, .int 2 tkh, .int x tkx']) Q' E' s' := by
  have N1 := news_sub N (l' := c.hp es nH :: c.mi :: c.md now tk3 :: t.ti :: Tsk.di { t with v := .int W tkW0 } c.M :: c.ci cnt tkc :: c.cd :: (lead ++ oth)) (sub_in (pre := [_, _, _, _, _, _, _]))
  refine linst2 (env := lawEnv L fa cdv) (outer := []) (rest := lead ++ oth) (es := es) (W := W) (tkv := tkW0) (vt := .none) (t := t.T) (dt := t.d) (bt := t.b) (by decide) (by decide) rfl rfl B X T F K.ne.n1 K.ne.n2 K.ne.n3 K.ne.n4 K.ne.n5 K.ne.n6 K.ne.n7 K.ne.n8 K.ne.n9 K.ne.n10 K.ne.n11 K.ne.n12 K.ne.n13 K.ne.n14 K.ne.n15 (K.offl hl) K.hpw
    (fun x hx => List.mem_append_right _ (K.hes x hx)) K.hes3 (fun x hx => ?_) K.hcnt K.hb0 K.hb1 N1 fun q es1 nH' h' tk' tkc' tkW h1 h2 h3 h4 F' N' => ?_
  · obtain ⟨dx, hd⟩ := K.hts x hx
    refine ⟨dx, ?_⟩
    rcases List.mem_cons.mp hd with e | e
    · exact e ▸ .head _
    · exact .tail _ (List.mem_append_right _ e)
  · refine h _ h' tk' ⟨q, es1, nH', tkc', tkW, h1, h2, h3, h4, rfl⟩ (fun p hp b hb => ?_) (fun r hr => .tail _ (.tail _ (.tail _ (.tail _ (.tail _ (.tail _ (.tail _ (.tail _ (K.hrs r hr))))))))) F' (news_sub N' fun p hp => ?_)
    · obtain rfl := List.mem_singleton.mp hb
      have hq : q.q ≠ b := ne_of_news N' (.tail _ (.head _)) (.tail _ (.tail _ (.tail _ (.tail _ (.tail _ (.tail _ (.tail _ (.tail _ (List.mem_append_left _ hm))))))))) (ne_cls (by simp))
      have ho : ∀ p ∈ oth, p.1 ≠ b := fun p hp => hTM p (.tail _ (.tail _ (.tail _ (.tail _ (.tail _ (.tail _ (.tail _ hp))))))) b (.head _)
      simp only [List.mem_cons] at hp
      rcases hp with rfl | rfl | rfl | rfl | rfl | rfl | rfl | rfl | hp
      · exact hTM _ (.head _) b (.head _)
      · exact hTM _ (.tail _ (.head _)) b (.head _)
      · exact hTM _ (.tail _ (.tail _ (.head _))) b (.head _)
      · exact hTM _ (.tail _ (.tail _ (.tail _ (.head _)))) b (.head _)
      · exact hTM _ (.tail _ (.tail _ (.tail _ (.tail _ (.head _))))) b (.head _)
      · exact hTM _ (.tail _ (.tail _ (.tail _ (.tail _ (.tail _ (.head _)))))) b (.head _)
      · exact hTM _ (.tail _ (.tail _ (.tail _ (.tail _ (.tail _ (.tail _ (.head _))))))) b (.head _)
      · exact hq
      · exact ho p hp
    · simp only [List.mem_append, List.mem_cons] at hp ⊢
      rcases hp with h | h | h | h | h | h | h | h | h | h <;> simp only [h, true_or, or_true]
theorem pvN (X : (hd.heap_39 w.params).In h₀) (T : T18 s₀ mg mb h₀) (K : Ctx18 c es cnt t oth rs [R, TM, TL, L + 1 + 1, L + 1]) (s' : Shared) (m' : Str → Option Value) (lead : List (Addr × Obj)) (tkh tkx' : Tok) (Q' : Value → Shared → Prop) (E' : Value → Shared → Prop)
    (hl : ∀ p ∈ lead, p.1 ∈ [R, TM, TL, L + 1 + 1, L + 1]) (B : Below callerA h₀ [] h₀) (F : Fr h₀ L s'.heap m') (N : News h₀ L s'.heap (lead ++ ML c es nH now tk3 cnt tkc { t with v := .none } oth))
    (h : ∀ (h' : Heap) (tk' : Tok), Fr h₀ L h' m' → News h₀ L h' (lead ++ ML c es nH now tk3 cnt tkc { t with v := .none } oth) → Q' (.bool false) { s' with heap := h', toks := tk' }) :
    wpAny (model Challenge.rw_fe0018_01.row.prog w) (callerA.deeper (lawEnv L fa cdv)) (call (.ref 255) [.ref t.T, .int 2 tkh, .int x tkx']) Q' E' s' := by
  have N1 := news_sub N (l' := c.hp es nH :: c.mi :: c.md now tk3 :: t.ti :: Tsk.di { t with v := .none } c.M :: c.ci cnt tkc :: c.cd :: (lead ++ oth)) (sub_in (pre := [_, _, _, _, _, _, _]))
  refine linstN (env := lawEnv L fa cdv) (rest := lead ++ oth) (es := es) (W := 0) (tkv := tk3) (vt := .none) (t := t.T) (dt := t.d) (bt := t.b) (by decide) (by decide) rfl rfl B X T F K.ne.n1 K.ne.n2 K.ne.n3 K.ne.n4 K.ne.n5 K.ne.n6 K.ne.n7 K.ne.n8 K.ne.n9 K.ne.n10 K.ne.n11 K.ne.n12 K.ne.n13 K.ne.n14 K.ne.n15 (K.offl hl) K.hpw
    (fun x hx => List.mem_append_right _ (K.hes x hx)) K.hes3 (fun x hx => ?_) K.hcnt K.hb0 K.hb1 N1 fun h' tk' F' N' => ?_
  · obtain ⟨dx, hd⟩ := K.hts x hx
    refine ⟨dx, ?_⟩
    rcases List.mem_cons.mp hd with e | e
    · exact e ▸ .head _
    · exact .tail _ (List.mem_append_right _ e)
  · exact h h' tk' F' (news_sub N' (sub_out (pre := [_, _, _, _, _, _, _])))
end
end Mine
end

section
open PySem PySem.W PyProof.Rows PySem.Calls
set_option maxRecDepth 100000
set_option maxHeartbeats 4000000
namespace Mine
/-- what a suspension leaves -/
def PS (c : Cst) (es : List Ent) (now : Int) (tk3 : Tok) (cnt : Int) (tkc : Tok) (t : Tsk) (oth : List (Addr × Obj)) (m : List (Addr × Obj)) : Prop :=
  (∃ nH, (∀ x ∈ es, x.t ≠ t.T) ∧ m = ML c es nH now tk3 cnt tkc t oth) ∨
  (∃ nH i x, es[i]? = some x ∧ x.t = t.T ∧ m = ML c (hpf (es.eraseIdx i)) nH now tk3 cnt tkc { t with b := false } oth)
section
variable {w : World} {s s₀ : Shared} {h₀ : Heap} {L fa : Addr} {cdv : Value} {mg mb : Str → Option Value} {la : List Addr} {rs : List Row3} {c : Cst} {es : List Ent} {nH : Nat} {now cnt x : Int} {tk3 tkc : Tok} {t : Tsk} {oth : List (Addr × Obj)}
theorem Ctx18.offs {la : List Addr} (K : Ctx18 c es cnt t oth rs la) {lead : List (Addr × Obj)} (hl : ∀ p ∈ lead, p.1 ∈ la) {tkc : Tok} : OwnOff (lead ++ (c.ci cnt tkc :: c.cd :: oth)) [c.H, t.d] := fun p hp b hb => by
  have hb3 : b ∈ [c.H, t.d, c.C] := by
    simp only [List.mem_cons, List.not_mem_nil, or_false] at hb ⊢
    rcases hb with h | h <;> simp only [h, true_or, or_true]
  rcases List.mem_append.mp hp with h | h
  · exact K.lead _ (hl p h) b hb3
  · simp only [List.mem_cons, List.not_mem_nil, or_false] at hb
    rcases List.mem_cons.mp h with rfl | h
    · rcases hb with rfl | rfl
      · exact K.ne.n8
      · exact K.ne.n9
    · rcases List.mem_cons.mp h with rfl | h
      · rcases hb with rfl | rfl
        · exact K.ne.n10
        · exact K.ne.n11
      · exact K.off p h b hb3
theorem pvS (X : (hd.heap_39 w.params).In h₀) (T : T18 s₀ mg mb h₀) (K : Ctx18 c es cnt t oth rs la) (s' : Shared) (m' : Str → Option Value) (lead : List (Addr × Obj)) (Q' : Value → Shared → Prop) (E' : Value → Shared → Prop)
    (hl : ∀ p ∈ lead, p.1 ∈ la) (B : Below callerA h₀ [] h₀) (F : Fr h₀ L s'.heap m') (N : News h₀ L s'.heap (lead ++ ML c es nH now tk3 cnt tkc t oth))
    (h : ∀ (mrest' : List (Addr × Obj)) (h' : Heap) (tk' : Tok), PS c es now tk3 cnt tkc t oth mrest' → (∀ r ∈ rs, (r.q, r.obj) ∈ mrest') → Fr h₀ L h' m' → News h₀ L h' (lead ++ mrest') → Q' .none { s' with heap := h', toks := tk' }) :
    wpAny (model Challenge.rw_fe0018_01.row.prog w) (callerA.deeper (lawEnv L fa cdv)) (call (.ref 100) [.ref t.T]) Q' E' s' := by
  have N1 := news_sub N (l' := c.hp es nH :: c.mi :: c.md now tk3 :: t.ti :: t.di c.M :: (lead ++ (c.ci cnt tkc :: c.cd :: oth))) (sub_in (pre := [_, _, _, _, _]))
  have hr9 : ∀ r ∈ rs, (r.q, r.obj) ∈ c.hp es nH :: c.mi :: c.md now tk3 :: t.ti :: t.di c.M :: c.ci cnt tkc :: c.cd :: oth := fun r hr => .tail _ (.tail _ (.tail _ (.tail _ (.tail _ (.tail _ (.tail _ (K.hrs r hr)))))))
  refine susp100 (env := lawEnv L fa cdv) (outer := []) (rest := lead ++ (c.ci cnt tkc :: c.cd :: oth)) (es := es) (t := t.T) (dt := t.d) (by decide) (by decide) rfl rfl B X T F K.ne.n1 K.ne.n2 K.ne.n3 K.ne.n4 K.ne.n5 K.ne.n6 K.ne.n7 (K.offs hl) K.hpw
    (fun x hx => List.mem_append_right _ (.tail _ (.tail _ (K.hes x hx)))) K.hes3 (fun x hx => ?_) N1 (fun hno h' tk' F' N' => ?_) (fun i x hx hxt _ h' tk' F' N' => ?_)
  · obtain ⟨dx, hd⟩ := K.hts x hx
    refine ⟨dx, ?_⟩
    rcases List.mem_cons.mp hd with e | e
    · exact e ▸ .head _
    · exact .tail _ (List.mem_append_right _ (.tail _ (.tail _ e)))
  · exact h _ h' tk' (.inl ⟨nH, hno, rfl⟩) hr9 F' (news_sub N' (sub_out (pre := [_, _, _, _, _])))
  · exact h _ h' tk' (.inr ⟨nH + 1, i, x, hx, hxt, rfl⟩) (fun r hr => .tail _ (.tail _ (.tail _ (.tail _ (.tail _ (.tail _ (.tail _ (K.hrs r hr)))))))) F' (news_sub N' (sub_out (pre := [_, _, _, _, _])))
/-- nothing is scheduled -/
theorem pvA (X : (hd.heap_39 w.params).In h₀) (T : T18 s₀ mg mb h₀) (he : es = []) (hrs : ∀ r ∈ rs, (r.q, r.obj) ∈ oth) (s' : Shared) (m' : Str → Option Value) (lead : List (Addr × Obj)) (Q' : Value → Shared → Prop) (E' : Value → Shared → Prop)
    (B : Below callerA h₀ [] h₀) (F : Fr h₀ L s'.heap m') (N : News h₀ L s'.heap (lead ++ ML c es nH now tk3 cnt tkc t oth))
    (h : ∀ (mrest' : List (Addr × Obj)) (Dt : Addr) (h' : Heap) (tk' : Tok), mrest' = ML c es nH now tk3 cnt tkc t oth → (∀ r ∈ rs, (r.q, r.obj) ∈ mrest') → Fr h₀ L h' m' → News h₀ L h' ((Dt, { cls := .type "tuple", data := .seq #[.none, .none] }) :: (lead ++ mrest')) → Q' (.ref Dt) { s' with heap := h', toks := tk' }) :
    wpAny (model Challenge.rw_fe0018_01.row.prog w) (callerA.deeper (lawEnv L fa cdv)) (call (.ref 234) [.ref c.M]) Q' E' s' := by
  subst he
  have N1 := news_sub N (l' := c.hp [] nH :: c.mi :: c.md now tk3 :: (lead ++ (t.ti :: t.di c.M :: c.ci cnt tkc :: c.cd :: oth))) (sub_in (pre := [_, _, _]))
  refine gnt0 (env := lawEnv L fa cdv) (outer := []) (rest := lead ++ (t.ti :: t.di c.M :: c.ci cnt tkc :: c.cd :: oth)) (by decide) (by decide) rfl rfl B X T F N1 fun D h' tk' F' N' => ?_
  refine h _ D h' tk' rfl (fun r hr => .tail _ (.tail _ (.tail _ (.tail _ (.tail _ (.tail _ (.tail _ (hrs r hr)))))))) F' (fun p hp => ?_)
  rcases List.mem_cons.mp hp with rfl | hp
  · exact N' _ (.head _)
  · exact N' p (.tail _ (sub_out (pre := [_, _, _]) p hp))
/-- the first entry is read, and taken when it is due -/
theorem pvG {e : Ent} {es : List Ent} (X : (hd.heap_39 w.params).In h₀) (T : T18 s₀ mg mb h₀) (K : Ctx18 c (e :: es) cnt t oth rs la) (het : e.t = t.T) (s' : Shared) (m' : Str → Option Value) (lead : List (Addr × Obj)) (Q' : Value → Shared → Prop) (E' : Value → Shared → Prop)
    (hl : ∀ p ∈ lead, p.1 ∈ la) (B : Below callerA h₀ [] h₀) (F : Fr h₀ L s'.heap m') (N : News h₀ L s'.heap (lead ++ ML c (e :: es) nH now tk3 cnt tkc t oth))
    (hB : now < e.w → ∀ (mrest' : List (Addr × Obj)) (Dt : Addr) (h' : Heap) (tk' tv : Tok), mrest' = ML c (e :: es) nH now tk3 cnt tkc t oth → (∀ r ∈ rs, (r.q, r.obj) ∈ mrest') → Fr h₀ L h' m' → News h₀ L h' ((Dt, { cls := .type "tuple", data := .seq #[.none, .int (e.w - now) tv] }) :: (lead ++ mrest')) → Q' (.ref Dt) { s' with heap := h', toks := tk' })
    (hC : e.w ≤ now → ppp (e :: es) = [] → ∀ (mrest' : List (Addr × Obj)) (Dt : Addr) (h' : Heap) (tk' : Tok), mrest' = ML c [] (nH + 1) now tk3 cnt tkc { t with b := false } oth → (∀ r ∈ rs, (r.q, r.obj) ∈ mrest') → Fr h₀ L h' m' → News h₀ L h' ((Dt, { cls := .type "tuple", data := .seq #[.ref t.T, .none] }) :: (lead ++ mrest')) → Q' (.ref Dt) { s' with heap := h', toks := tk' })
    (hD : e.w ≤ now → ∀ e2 es2, ppp (e :: es) = e2 :: es2 → ∀ (mrest' : List (Addr × Obj)) (Dt : Addr) (h' : Heap) (tk' : Tok) (v : Value) (tv : Tok), (v = .float 0 tv ∧ e2.w < now ∨ v = .int (e2.w - now) tv ∧ now ≤ e2.w) → mrest' = ML c (e2 :: es2) (nH + 1) now tk3 cnt tkc { t with b := false } oth → (∀ r ∈ rs, (r.q, r.obj) ∈ mrest') → Fr h₀ L h' m' → News h₀ L h' ((Dt, { cls := .type "tuple", data := .seq #[.ref t.T, v] }) :: (lead ++ mrest')) → Q' (.ref Dt) { s' with heap := h', toks := tk' }) :
    wpAny (model Challenge.rw_fe0018_01.row.prog w) (callerA.deeper (lawEnv L fa cdv)) (call (.ref 234) [.ref c.M]) Q' E' s' := by
  obtain ⟨T', d', x1, x2, x3, y1, y2, y3, v', b'⟩ := t
  obtain ⟨eq, ew, etw, ec, etc', et⟩ := e
  dsimp only at het
  subst het
  have he := K.hes _ (.head _)
  have N1 : News h₀ L s'.heap (c.hp (⟨eq, ew, etw, ec, etc', et⟩ :: es) nH :: c.mi :: c.md now tk3 :: (eq, Ent.obj ⟨eq, ew, etw, ec, etc', et⟩) :: (et, instObj 123 d') :: Tsk.di ⟨et, d', x1, x2, x3, y1, y2, y3, v', b'⟩ c.M :: (lead ++ (c.ci cnt tkc :: c.cd :: oth))) := news_sub N fun p hp => by
    simp only [List.mem_append, List.mem_cons] at hp ⊢
    rcases hp with h | h | h | h | h | h | h | h | h | h
    · simp only [h, true_or, or_true]
    · simp only [h, true_or, or_true]
    · simp only [h, true_or, or_true]
    · subst h; simp only [he, or_true]
    all_goals simp only [h, true_or, or_true]
  have out : ∀ {es' : List Ent} {n' : Nat} {bb : Bool} {Dt : Addr} {oD : Obj} {hh : Heap}, News h₀ L hh ((Dt, oD) :: c.hp es' n' :: c.mi :: c.md now tk3 :: (eq, Ent.obj ⟨eq, ew, etw, ec, etc', et⟩) :: (et, instObj 123 d') :: Tsk.di ⟨et, d', x1, x2, x3, y1, y2, y3, v', bb⟩ c.M :: (lead ++ (c.ci cnt tkc :: c.cd :: oth))) → News h₀ L hh ((Dt, oD) :: (lead ++ ML c es' n' now tk3 cnt tkc ⟨et, d', x1, x2, x3, y1, y2, y3, v', bb⟩ oth)) := fun NN => news_sub NN fun p hp => by
    simp only [List.mem_append, List.mem_cons] at hp ⊢
    rcases hp with h | h | h | h | h | h | h | h | h | h <;> simp only [h, true_or, or_true]
  have hl3 := K.hes3
  refine gnt1 (e := ⟨eq, ew, etw, ec, etc', et⟩) (es := es) (env := lawEnv L fa cdv) (outer := []) (rest := lead ++ (c.ci cnt tkc :: c.cd :: oth)) (by simp only [List.length_cons] at hl3 ⊢; omega) (by simp only [List.length_cons] at hl3; omega) K.ne.n1 K.ne.n2 K.ne.n3 K.ne.n4 K.ne.n5 K.ne.n6 K.ne.n7 (K.off _ he _ (.head _)) (K.off _ he _ (.tail _ (.head _))) (K.offs hl) K.hpw
    (fun x hx => List.mem_append_right _ (.tail _ (.tail _ (K.hes x (.tail _ hx))))) (by decide) (by decide) rfl rfl B X T F N1 (fun hlt D h' tk' tv F' N' => ?_) (fun hle hp D h' tk' F' N' => ?_) (fun hle e2 es2 hp D h' tk' v tv hv F' N' => ?_)
  · exact hB hlt _ D h' tk' tv rfl (fun r hr => .tail _ (.tail _ (.tail _ (.tail _ (.tail _ (.tail _ (.tail _ (K.hrs r hr)))))))) F' (out N')
  · exact hC hle hp _ D h' tk' rfl (fun r hr => .tail _ (.tail _ (.tail _ (.tail _ (.tail _ (.tail _ (.tail _ (K.hrs r hr)))))))) F' (out N')
  · exact hD hle e2 es2 hp _ D h' tk' v tv hv rfl (fun r hr => .tail _ (.tail _ (.tail _ (.tail _ (.tail _ (.tail _ (.tail _ (K.hrs r hr)))))))) F' (out N')
end
end Mine
end

section
open PySem PySem.W PyProof.Rows PySem.Calls
namespace Mine
local macro_rules | `(tactic| walk_at "idle line 0") => `(tactic| fail "idle")
local macro_rules | `(tactic| walk_at "idle line 1") => `(tactic| fail "idle")
local macro_rules | `(tactic| walk_at "idle line 2") => `(tactic| fail "idle")
local macro_rules | `(tactic| walk_at "idle line 3") => `(tactic| fail "idle")
local macro_rules | `(tactic| walk_at "idle line 4") => `(tactic| fail "idle")
local macro_rules | `(tactic| walk_at "idle line 5") => `(tactic| fail "idle")
theorem ints_rows : ∀ rs : List Row3, IntsAre (rs.map fun r => Value.int r.k r.tk) (rs.map (·.k))
  | [] => by first | exact .nil | exact trivial | simp [IntsAre]
  | r :: rs => .cons _ _ (ints_rows rs)
local macro_rules | `(tactic| k_room) => `(tactic| ((try simp only [depth_mark, depth_under_make, depth_under_kw, depth_in1, depth_deeper, depth_caller, recursionLimit]); omega))
local macro_rules | `(tactic| k_units) => `(tactic| ((try simp only [cLine, units_in1, units_deeper, Around.mark_units, units_caller]); omega))
local macro_rules | `(tactic| walk_at "eval ListComp") => `(tactic| (k_here; refine stop_of ?_))
local macro_rules | `(tactic| walk_at "compareOp NotEq ref ref") => `(tactic| (k_here; refine stop_of ?_))
local macro_rules | `(tactic| walk_at "CompSrc") => `(tactic| (k_here; refine stop_of ?_))
set_option maxRecDepth 100000 in
set_option maxHeartbeats 8000000 in
theorem tail18 {w : World} {s s₀ : Shared} {h₀ : Heap} {L fa : Addr} {cdv : Value} {mg mb : Str → Option Value} {u : Str → Option Value} {Q : Flow → Shared → Prop} {E : Value → Shared → Prop} {rest : List (Addr × Obj)}
  {M TL TM R : Addr} {now turn : Int} {tknow tkturn : Tok} {rs : List Row3} {ock ocs : Obj} {vk vs : Option Value} {nR nM : Nat} {t0 t1 t2 : Tsk} {u0 u1 u2 : Value}
  (X : (hd.heap_39 w.params).In h₀) (T : T18 s₀ mg mb h₀)
  (F : Fr h₀ L s.heap (lawM M TL TM R now turn tknow tkturn u))
  (e1 : @Ne Nat R (L + 1 + 1)) (e2 : @Ne Nat TM (L + 1 + 1)) (e3 : @Ne Nat TL (L + 1 + 1)) (hoff : OwnOff rest [L + 1 + 1]) (hrs : ∀ r ∈ rs, (r.q, r.obj) ∈ rest) (h3 : rs.length ≤ 3) (dk : ock.data = .cell vk) (ds : ocs.data = .cell vs)
  (ht0 : t0.ti ∈ rest) (ht1 : t1.ti ∈ rest) (ht2 : t2.ti ∈ rest) (hd0 : t0.di M ∈ rest) (hd1 : t1.di M ∈ rest) (hd2 : t2.di M ∈ rest)
  (hb0 : t0.b = stands rs 0) (hb1 : t1.b = stands rs 1) (hb2 : t2.b = stands rs 2) (hv0 : EqV t0.v u0) (hv1 : EqV t1.v u1) (hv2 : EqV t2.v u2)
  (hh0 : handedIn t0.v = true) (hh1 : handedIn t1.v = true) (hh2 : handedIn t2.v = true)
  (N : News h₀ L s.heap ((R, PySem.W.listOf (rrefs rs) nR) :: (TM, PySem.W.listOf #[u0, u1, u2] nM) :: (TL, PySem.W.listOf #[.ref t0.T, .ref t1.T, .ref t2.T] 0) :: (L + 1 + 1, ocs) :: (L + 1, ock) :: rest))
  (hQ : ∀ (ocs' : Obj) (u' : Str → Option Value) (h' : Heap) (tk' : Tok), (∃ v, ocs'.data = .cell v) → Fr h₀ L h' (lawM M TL TM R now turn tknow tkturn u') → News h₀ L h' ((R, PySem.W.listOf (rrefs rs) nR) :: (TM, PySem.W.listOf #[u0, u1, u2] nM) :: (TL, PySem.W.listOf #[.ref t0.T, .ref t1.T, .ref t2.T] 0) :: (L + 1 + 1, ocs') :: (L + 1, ock) :: rest) → Q .next { s with heap := h', toks := tk' })
  (B : Below callerA h₀ [] h₀)
  : wpAny (model Challenge.rw_fe0018_01.row.prog w) (callerA.deeper (lawEnv L fa cdv)) (execs (loopBody.drop 4) (lawEnv L fa cdv)) Q E s := by
  have X0 := X
  revert X; k_fill; intro X
  dsimp only [loopBody, loopStmt, lawEnv, lawScope, lawBody, lawDef, Challenge.pw_fe0018_01, List.getLastD, List.getLast?, List.getLast, List.getD, List.getElem?_cons_succ, List.getElem?_cons_zero, Option.getD, List.drop]
  try k_fold
  k_steps
  unfold Stop
  refine ks_rule F N rfl rfl (.head _) (fun r hr => .tail _ (.tail _ (.tail _ (.tail _ (.tail _ (hrs r hr)))))) (Nat.le_succ_of_le h3) rfl rfl rfl (by decide) (cl := []) rfl (by decide) rfl (by decide) rfl (fun _ => rfl) (fun _ => rfl) (by decide) fun D h1 tk1 F1 N1 off1 => ?_
  have e4 : @Ne Nat (L + 1 + 1) D := off1 _ (.tail _ (.tail _ (.tail _ (.head _))))
  clear F N
  k_steps
  unfold Stop
  (rename Fr _ _ _ _ => F2); (rename News _ _ _ _ => N2)
  refine attrs_rule (ts := [t0, t1, t2]) (fun t => .bool t.b) F2 N2 rfl rfl (.tail _ (.tail _ (.tail _ (.head _)))) (Nat.le_of_ble_eq_true rfl) ?hget rfl rfl rfl (by decide) (cl := []) rfl (by decide) rfl (by decide) rfl (fun _ => rfl) (fun _ => rfl) (by decide) fun D2 h2 tk2 F3 N3 off3 => ?_
  case hget =>
    intro t ht s' Q' E' F' N' hq
    simp only [List.mem_cons, List.not_mem_nil, or_false] at ht
    rcases ht with rfl | rfl | rfl
    · exact task_in (M := M) X0 F' N' (List.mem_append_right [_, _, _, _, _, _] ht0) (List.mem_append_right [_, _, _, _, _, _] hd0) (hq _)
    · exact task_in (M := M) X0 F' N' (List.mem_append_right [_, _, _, _, _, _] ht1) (List.mem_append_right [_, _, _, _, _, _] hd1) (hq _)
    · exact task_in (M := M) X0 F' N' (List.mem_append_right [_, _, _, _, _, _] ht2) (List.mem_append_right [_, _, _, _, _, _] hd2) (hq _)
  clear F2 N2
  k_steps
  unfold Stop
  refine LCg.ListComp_U (cl := [(Str.ofString "stands", L + 1 + 1)]) F3 rfl (by decide) rfl (by decide) rfl ?_
  k_steps
  unfold Stop
  (rename Fr _ _ _ _ => F4); (rename News _ _ _ _ => N4)
  refine LCg.CompSrc.range rfl F4 N4 (by assumption) (by first | decide | rfl) (n := 3) (by first | rfl | decide) (Nat.le_of_ble_eq_true rfl) fun g => ?_
  refine rest_range (fun i => .bool (stands rs (i : Int))) ?hev ?fin
  case hev =>
    intro i hi t I oI C oC D3 ys m₂ h tk E' Q' hoC hx F' N' hq
    refine in_stands (D := D) (cs := L + 1 + 1) (i := 0 + (i : Int)) N' (.tail _ (.head _)) hoC hx (List.mem_append_right [_, _, _] (by k_mem)) (by assumption) (List.mem_append_right [_, _, _] (by k_mem)) (ints_rows rs) (by rw [List.length_map]; omega) rfl rfl (by decide) rfl rfl (by decide) (by k_units) fun tk' => ?_
    rw [Int.zero_add]; exact hq _
  case fin =>
    intro D4 h4 tk4 F5 N5 off5
    clear F4 N4
    refine ne_like (xs := #[.bool t0.b, .bool t1.b, .bool t2.b]) (ys := #[.bool (stands rs 0), .bool (stands rs 1), .bool (stands rs 2)]) (n := 3) (k := 3) (N5 (D2, _) (by k_mem)).1 (N5 _ (.head _)).1 rfl (like3 ?_ ?_ ?_) (by k_units) ?_
    · rw [hb0]; exact EqV.refl _
    · rw [hb1]; exact EqV.refl _
    · rw [hb2]; exact EqV.refl _
    k_steps
    unfold Stop
    (rename Fr _ _ _ _ => F6); (rename News _ _ _ _ => N6)
    refine attrs_rule (ts := [t0, t1, t2]) (fun t => t.v) F6 N6 rfl rfl (.tail _ (.tail _ (.tail _ (.tail _ (.tail _ (.head _)))))) (Nat.le_of_ble_eq_true rfl) ?hget2 rfl rfl rfl (by decide) (cl := []) rfl (by decide) rfl (by decide) rfl (fun _ => rfl) (fun _ => rfl) (by decide) fun D5 h5 tk5 F7 N7 off7 => ?_
    case hget2 =>
      intro t ht s' Q' E' F' N' hq
      simp only [List.mem_cons, List.not_mem_nil, or_false] at ht
      rcases ht with rfl | rfl | rfl
      · exact task_time (M := M) X0 F' N' (List.mem_append_right [_, _, _, _, _, _, _, _] ht0) (List.mem_append_right [_, _, _, _, _, _, _, _] hd0) hh0 (hq _)
      · exact task_time (M := M) X0 F' N' (List.mem_append_right [_, _, _, _, _, _, _, _] ht1) (List.mem_append_right [_, _, _, _, _, _, _, _] hd1) hh1 (hq _)
      · exact task_time (M := M) X0 F' N' (List.mem_append_right [_, _, _, _, _, _, _, _] ht2) (List.mem_append_right [_, _, _, _, _, _, _, _] hd2) hh2 (hq _)
    clear F6 N6
    k_steps
    unfold Stop
    refine ne_like (xs := #[t0.v, t1.v, t2.v]) (ys := #[u0, u1, u2]) (n := 3) (k := nM) (N7 _ (.head _)).1 (N7 (TM, _) (.tail _ (.tail _ (.tail _ (.tail _ (.tail _ (.head _))))))).1 rfl (like3 hv0 hv1 hv2) (by k_units) ?_
    k_steps
    exact hQ _ _ _ _ ⟨_, by assumption⟩ (fr_of F7 (pinM (by exact rfl) (by exact rfl) (by exact rfl) (by exact rfl) (by exact rfl) (by exact rfl))) (fun p hp => N7 p (.tail _ (.tail _ (.tail _ (.tail _ hp)))))
end Mine
end

section
open PySem PySem.W PyProof.Rows PySem.Calls
namespace Mine
theorem pinX {m m' : Str → Option Value} {a b : Str} {va vb : Option Value} (h1 : m a = va) (h2 : m b = vb) (h3 : m = m') : m = fun y => if y = a then va else if y = b then vb else m' y := by
  subst h3
  funext y
  by_cases ha : y = a
  · subst ha; rw [if_pos rfl]; exact h1
  · rw [if_neg ha]
    by_cases hb : y = b
    · subst hb; rw [if_pos rfl]; exact h2
    · rw [if_neg hb]
local macro_rules | `(tactic| k_room) => `(tactic| ((try simp only [depth_mark, depth_under_make, depth_under_kw, depth_in1, depth_deeper, depth_caller, recursionLimit]); omega))
local macro_rules | `(tactic| k_units) => `(tactic| ((try simp only [cLine, units_in1, units_deeper, Around.mark_units, units_caller]); omega))
local macro_rules | `(tactic| walk_at "exec If") => `(tactic| (k_here; refine stop_of ?_))
set_option maxRecDepth 100000 in
set_option maxHeartbeats 8000000 in
theorem head18 {w : World} {s s₀ : Shared} {h₀ : Heap} {L fa : Addr} {cdv : Value} {mg mb : Str → Option Value} {u : Str → Option Value} {Q : Flow → Shared → Prop} {E : Value → Shared → Prop} {mrest : List (Addr × Obj)}
  {M TL TM R : Addr} {now turn nv : Int} {tknow tkturn tkn : Tok} {ock ocs oR oTM oTL : Obj} {vk : Option Value}
  (X : (hd.heap_39 w.params).In h₀) (T : T18 s₀ mg mb h₀)
  (F : Fr h₀ L s.heap (fun y => if y = Str.ofString "n" then some (.int nv tkn) else lawM M TL TM R now turn tknow tkturn u y))
  (e1 : @Ne Nat R (L + 1)) (e2 : @Ne Nat TM (L + 1)) (e3 : @Ne Nat TL (L + 1)) (hoff : OwnOff mrest [L + 1]) (dk : ock.data = .cell vk)
  (N : News h₀ L s.heap ((R, oR) :: (TM, oTM) :: (TL, oTL) :: (L + 1 + 1, ocs) :: (L + 1, ock) :: mrest))
  (h : ∀ (ock' : Obj) (tkk tkx tkkd : Tok) (u' : Str → Option Value) (h' : Heap) (tk' : Nat), ock'.data = .cell (some (.int ((nv.fdiv 6).fmod 3) tkk)) → Fr h₀ L h' (fun y => if y = Str.ofString "x" then some (.int ((nv.fdiv 18).fmod 2000) tkx) else if y = Str.ofString "kind" then some (.int (nv.fmod 6) tkkd) else lawM M TL TM R now turn tknow tkturn u' y) →
    News h₀ L h' ((R, oR) :: (TM, oTM) :: (TL, oTL) :: (L + 1 + 1, ocs) :: (L + 1, ock') :: mrest) → Below callerA h₀ [] h₀ →
    wpAny (model Challenge.rw_fe0018_01.row.prog w) (callerA.deeper (lawEnv L fa cdv)) (exec loopIf (lawEnv L fa cdv)) (fun f s' => match f with | .next => wpAny (model Challenge.rw_fe0018_01.row.prog w) (callerA.deeper (lawEnv L fa cdv)) (execs (loopBody.drop 4) (lawEnv L fa cdv)) Q E s' | f => Q f s') E { s with heap := h', toks := tk' })
  (B : Below callerA h₀ [] h₀)
  : wpAny (model Challenge.rw_fe0018_01.row.prog w) (callerA.deeper (lawEnv L fa cdv)) (execs loopBody (lawEnv L fa cdv)) Q E s := by
  revert X; k_fill; intro X
  dsimp only [loopIf, loopBody, loopStmt, lawEnv, lawScope, lawBody, lawDef, Challenge.pw_fe0018_01, List.getLastD, List.getLast?, List.getLast, List.getD, List.getElem?_cons_succ, List.getElem?_cons_zero, Option.getD, List.drop] at h ⊢
  try k_fold
  k_steps
  unfold Stop
  (rename Fr _ _ _ _ => FB); (rename News _ _ _ _ => NB)
  exact h _ _ _ _ _ _ _ (by assumption) (fr_of FB (pinX (by exact rfl) (by exact rfl) (pinM (by exact rfl) (by exact rfl) (by exact rfl) (by exact rfl) (by exact rfl) (by exact rfl)))) NB B
end Mine
end

section
open PySem PySem.W PyProof.Rows PySem.Calls
set_option maxRecDepth 100000
set_option maxHeartbeats 4000000
namespace Mine
abbrev tup (c : Cst) (es : List Ent) (rs : List Row3) : List (Addr × Obj) := es.map (fun e => (e.q, e.obj)) ++ rs.map (fun r => (r.q, r.obj)) ++ c.ext
theorem tup_e {c : Cst} {es : List Ent} {rs : List Row3} {e : Ent} (h : e ∈ es) : (e.q, e.obj) ∈ tup c es rs := List.mem_append_left _ (List.mem_append_left _ (List.mem_map.mpr ⟨e, h, rfl⟩))
theorem tup_r {c : Cst} {es : List Ent} {rs : List Row3} {r : Row3} (h : r ∈ rs) : (r.q, r.obj) ∈ tup c es rs := List.mem_append_left _ (List.mem_append_right _ (List.mem_map.mpr ⟨r, h, rfl⟩))
theorem tup_x {c : Cst} {es : List Ent} {rs : List Row3} {p : Addr × Obj} (h : p ∈ c.ext) : p ∈ tup c es rs := List.mem_append_right _ h
theorem tup_cases {c : Cst} {es : List Ent} {rs : List Row3} {p : Addr × Obj} (h : p ∈ tup c es rs) : (∃ e ∈ es, p = (e.q, e.obj)) ∨ (∃ r ∈ rs, p = (r.q, r.obj)) ∨ p ∈ c.ext := by
  rcases List.mem_append.mp h with h | h
  · rcases List.mem_append.mp h with h | h
    · obtain ⟨e, he, rfl⟩ := List.mem_map.mp h; exact .inl ⟨e, he, rfl⟩
    · obtain ⟨e, he, rfl⟩ := List.mem_map.mp h; exact .inr (.inl ⟨e, he, rfl⟩)
  · exact .inr (.inr h)
theorem tup_cls {c : Cst} {es : List Ent} {rs : List Row3} {p : Addr × Obj} (h : p ∈ tup c es rs) : p ∈ c.ext ∨ p.2.cls = .type "tuple" ∧ ∃ xs n, p.2.data = .seq xs n := by
  rcases tup_cases h with ⟨e, _, rfl⟩ | ⟨e, _, rfl⟩ | h
  · exact .inr ⟨rfl, _, _, rfl⟩
  · exact .inr ⟨rfl, _, _, rfl⟩
  · exact .inl h
abbrev OT (c : Cst) (a b : Tsk) (es : List Ent) (rs : List Row3) : List (Addr × Obj) := a.ti :: a.di c.M :: b.ti :: b.di c.M :: tup c es rs
/-- the ledger at a turn -/
abbrev LD (c : Cst) (L TL TM R : Addr) (es : List Ent) (nH nR nM : Nat) (now : Int) (tk3 : Tok) (cnt : Int) (tkc : Tok) (t0 t1 t2 : Tsk) (u0 u1 u2 : Value) (ocs ock : Obj) (rs : List Row3) : List (Addr × Obj) :=
  (R, PySem.W.listOf (rrefs rs) nR) :: (TM, PySem.W.listOf #[u0, u1, u2] nM) :: (TL, PySem.W.listOf #[.ref t0.T, .ref t1.T, .ref t2.T] 0) :: (L + 1 + 1, ocs) :: (L + 1, ock) :: ML c es nH now tk3 cnt tkc t0 (OT c t1 t2 es rs)
structure Chn (c : Cst) (L TL TM T0 d0 T1 d1 T2 d2 : Addr) : Prop where
  h1 : @LT.lt Nat _ (L + 1 + 1) c.dM
  h2 : @LT.lt Nat _ c.dM c.M
  h3 : @LT.lt Nat _ c.M c.H
  h4 : @LT.lt Nat _ c.H c.dC
  h5 : @LT.lt Nat _ c.dC c.C
  h6 : @LT.lt Nat _ c.C d0
  h7 : @LT.lt Nat _ d0 T0
  h8 : @LT.lt Nat _ T0 d1
  h9 : @LT.lt Nat _ d1 T1
  h10 : @LT.lt Nat _ T1 d2
  h11 : @LT.lt Nat _ d2 T2
  h12 : @LT.lt Nat _ T2 TL
  h13 : @LT.lt Nat _ TL TM
/-- the same value, and how large -/
def TV (v u : Value) (b : Int) : Prop := (v = .none ∧ u = .none) ∨ ∃ W t t', v = .int W t ∧ u = .int W t' ∧ W ≤ b
theorem TV.eqv {v u : Value} {b : Int} (h : TV v u b) : EqV v u := by
  rcases h with ⟨rfl, rfl⟩ | ⟨W, t, t', rfl, rfl, _⟩
  · exact EqV.refl _
  · exact EqV.int _ _ _
theorem TV.handed {v u : Value} {b : Int} (h : TV v u b) : handedIn v = true := by
  rcases h with ⟨rfl, rfl⟩ | ⟨W, t, t', rfl, rfl, _⟩ <;> rfl
theorem TV.mono {v u : Value} {b b' : Int} (h : TV v u b) (hb : b ≤ b') : TV v u b' := by
  rcases h with h | ⟨W, t, t', h1, h2, h3⟩
  · exact .inl h
  · exact .inr ⟨W, t, t', h1, h2, by omega⟩
structure RN (c : Cst) (L TM d0 d1 d2 R : Addr) : Prop where
  r1 : @Ne Nat R TM
  r2 : @Ne Nat R (L + 1 + 1)
  r3 : @Ne Nat R (L + 1)
  r4 : @Ne Nat R c.H
  r5 : @Ne Nat R c.dM
  r6 : @Ne Nat R c.C
  r7 : @Ne Nat R d0
  r8 : @Ne Nat R d1
  r9 : @Ne Nat R d2
  r10 : ∀ p ∈ c.ext, p.1 ≠ R
/-- the state at a turn's start -/
structure Sit (c : Cst) (L TL TM T0 d0 T1 d1 T2 d2 R : Addr) (now cnt : Int) (es : List Ent) (rs : List Row3) (t0 t1 t2 : Tsk) (u0 u1 u2 : Value) (ocs ock : Obj) : Prop where
  ch : Chn c L TL TM T0 d0 T1 d1 T2 d2
  rn : RN c L TM d0 d1 d2 R
  a0 : t0.T = T0 ∧ t0.d = d0
  a1 : t1.T = T1 ∧ t1.d = d1
  a2 : t2.T = T2 ∧ t2.d = d2
  b0 : t0.b = stands rs 0
  b1 : t1.b = stands rs 1
  b2 : t2.b = stands rs 2
  v0 : TV t0.v u0 (now + 1999)
  v1 : TV t1.v u1 (now + 1999)
  v2 : TV t2.v u2 (now + 1999)
  ds : ∃ v, ocs.data = .cell v
  dk : ∃ v, ock.data = .cell v
  pos : 0 ≤ now
  J : Jn (fun k => if k = 0 then T0 else if k = 1 then T1 else T2) now cnt es rs
  hxt : OwnOff c.ext [TM, L + 1 + 1, L + 1, c.H, c.dM, c.C, d0, d1, d2]
theorem Chn.inj {c : Cst} {L TL TM T0 d0 T1 d1 T2 d2 : Addr} (H : Chn c L TL TM T0 d0 T1 d1 T2 d2) : Inj (fun k => if k = 0 then T0 else if k = 1 then T1 else T2) := by
  obtain ⟨h1, h2, h3, h4, h5, h6, h7, h8, h9, h10, h11, h12, h13⟩ := H
  refine ⟨?_, ?_, ?_⟩
  · show T0 ≠ T1; exact Nat.ne_of_lt (Nat.lt_trans h8 h9)
  · show T0 ≠ T2; exact Nat.ne_of_lt (Nat.lt_trans h8 (Nat.lt_trans h9 (Nat.lt_trans h10 h11)))
  · show T1 ≠ T2; exact Nat.ne_of_lt (Nat.lt_trans h10 h11)
section
variable {w : World} {s s₀ : Shared} {h₀ : Heap} {L fa : Addr} {cdv : Value} {mg mb : Str → Option Value} {u : Str → Option Value} {Q : Flow → Shared → Prop} {E : Value → Shared → Prop}
  {c : Cst} {TL TM T0 d0 T1 d1 T2 d2 R : Addr} {now cnt : Int} {es : List Ent} {rs : List Row3} {t0 t1 t2 : Tsk} {u0 u1 u2 : Value} {ocs ock : Obj} {nH nR nM : Nat} {tk3 tkc tknow tkturn : Tok}
theorem tup_ne {news : List (Addr × Obj)} {h : Heap} (N : News h₀ L h news) (hs : ∀ p ∈ tup c es rs, p ∈ news) {b : Addr} {ob : Obj} (hb : (b, ob) ∈ news) (h1 : ob.cls ≠ .type "tuple" ∨ ∃ v, ob.data = .cell v) (hx : ∀ p ∈ c.ext, p.1 ≠ b) : ∀ p ∈ tup c es rs, p.1 ≠ b := fun p hp => by
  rcases tup_cls hp with hp' | ⟨e1, xs, n, e2⟩
  · exact hx p hp'
  refine ne_of_news N (hs p hp) hb fun e => ?_
  rcases h1 with h1 | ⟨v, h1⟩
  · rw [← e] at h1; exact h1 e1
  · rw [← e, e2] at h1; cases h1
/-- the rest of the turn -/
theorem fin18 (X : (hd.heap_39 w.params).In h₀) (T : T18 s₀ mg mb h₀) (S : Sit c L TL TM T0 d0 T1 d1 T2 d2 R now cnt es rs t0 t1 t2 u0 u1 u2 ocs ock)
    (F : Fr h₀ L s.heap (lawM c.M TL TM R now cnt tknow tkturn u)) (N : News h₀ L s.heap (LD c L TL TM R es nH nR nM now tk3 cnt tkc t0 t1 t2 u0 u1 u2 ocs ock rs))
    (hQ : ∀ (ocs' : Obj) (u' : Str → Option Value) (h' : Heap) (tk' : Tok), Sit c L TL TM T0 d0 T1 d1 T2 d2 R now cnt es rs t0 t1 t2 u0 u1 u2 ocs' ock → Fr h₀ L h' (lawM c.M TL TM R now cnt tknow tkturn u') → News h₀ L h' (LD c L TL TM R es nH nR nM now tk3 cnt tkc t0 t1 t2 u0 u1 u2 ocs' ock rs) → Q .next { s with heap := h', toks := tk' })
    (B : Below callerA h₀ [] h₀) : wpAny (model Challenge.rw_fe0018_01.row.prog w) (callerA.deeper (lawEnv L fa cdv)) (execs (loopBody.drop 4) (lawEnv L fa cdv)) Q E s := by
  have S' := S
  obtain ⟨⟨h1, h2, h3, h4, h5, h6, h7, h8, h9, h10, h11, h12, h13⟩, ⟨r1, r2, r3, r4, r5, r6, r7, r8, r9, r10⟩, ⟨a1, a2⟩, ⟨a3, a4⟩, ⟨a5, a6⟩, b0, b1, b2, v0, v1, v2, ⟨vs, ds⟩, ⟨vk, dk⟩, pos, J, hxt⟩ := S
  subst a1; subst a2; subst a3; subst a4; subst a5; subst a6
  have ht : ∀ p ∈ tup c es rs, p.1 ≠ L + 1 + 1 := tup_ne N (fun p hp => List.mem_append_right [_, _, _, _, _, _, _, _, _, _, _, _, _, _, _, _] hp) (.tail _ (.tail _ (.tail _ (.head _)))) (.inr ⟨_, ds⟩) (fun p hp => hxt p hp _ (by simp))
  refine tail18 (rest := ML c es nH now tk3 cnt tkc t0 (OT c t1 t2 es rs)) (vs := vs) (vk := vk) X T F r2 (by omega) (by omega) (fun p hp b hb => ?_) (fun r hr => List.mem_append_right [_, _, _, _, _, _, _, _, _, _, _] (tup_r hr)) J.len3 dk ds ?_ ?_ ?_ ?_ ?_ ?_ b0 b1 b2 v0.eqv v1.eqv v2.eqv v0.handed v1.handed v2.handed N (fun ocs' u' h' tk' hd F' N' => ?_) B
  · cases List.mem_singleton.mp hb
    simp only [ML, OT, List.mem_cons] at hp
    rcases hp with rfl | rfl | rfl | rfl | rfl | rfl | rfl | rfl | rfl | rfl | rfl | hp
    all_goals first | exact ht p hp | (dsimp only [Cst.hp, Cst.mi, Cst.md, Cst.ci, Cst.cd, Tsk.ti, Tsk.di]; show @Ne Nat _ _; omega)
  · k_mem
  · k_mem
  · k_mem
  · k_mem
  · k_mem
  · k_mem
  · exact hQ ocs' u' h' tk' { S' with ds := hd } F' N'
end
end Mine
end

section
open PySem PySem.W PyProof.Rows PySem.Calls
set_option maxRecDepth 100000
set_option maxHeartbeats 4000000
namespace Mine
/-- the state, all told -/
def Rep18 (h₀ : Heap) (c : Cst) (L TL TM T0 d0 T1 d1 T2 d2 : Addr) (now cnt : Int) (es : List Ent) (rs : List Row3) (h : Heap) (m : Str → Option Value) : Prop :=
  ∃ R nH nR nM tk3 tkc tknow tkturn u t0 t1 t2 u0 u1 u2 ocs ock, Sit c L TL TM T0 d0 T1 d1 T2 d2 R now cnt es rs t0 t1 t2 u0 u1 u2 ocs ock ∧ m = lawM c.M TL TM R now cnt tknow tkturn u ∧ Fr h₀ L h m ∧ News h₀ L h (LD c L TL TM R es nH nR nM now tk3 cnt tkc t0 t1 t2 u0 u1 u2 ocs ock rs)
theorem stands_del {rs : List Row3} {k j : Int} : stands (rs.filter fun r => r.k != k) j = if j = k then false else stands rs j := by
  by_cases h : j = k
  · rw [if_pos h]
    cases hs : stands (rs.filter fun r => r.k != k) j with
    | false => rfl
    | true =>
      obtain ⟨r, hr, e⟩ := stands_iff.mp hs
      have := (List.mem_filter.mp hr).2
      rw [bne_iff_ne] at this
      exact absurd (e.trans h) this
  · rw [if_neg h]
    apply Bool.eq_iff_iff.mpr
    rw [stands_iff, stands_iff]
    constructor
    · rintro ⟨r, hr, e⟩; exact ⟨r, (List.mem_filter.mp hr).1, e⟩
    · rintro ⟨r, hr, e⟩; exact ⟨r, List.mem_filter.mpr ⟨hr, by rw [bne_iff_ne, e]; exact h⟩, e⟩
theorem stands_app {l : List Row3} {r : Row3} {j : Int} : stands (l ++ [r]) j = (stands l j || r.k == j) := by
  unfold stands; simp
abbrev tkf (T0 T1 T2 : Addr) : Int → Addr := fun k => if k = 0 then T0 else if k = 1 then T1 else T2
section
variable {c : Cst} {L TL TM T0 d0 T1 d1 T2 d2 R : Addr} {now cnt : Int} {es : List Ent} {rs : List Row3} {t0 t1 t2 : Tsk} {u0 u1 u2 : Value} {ocs ock : Obj} {nH nR nM : Nat} {tk3 tkc : Tok} {h₀ h : Heap}
/-- what the calls ask, for one task t, the others a and b -/
theorem ctx18 {t a b : Tsk} {k : Int} (hk : k = 0 ∨ k = 1 ∨ k = 2) (ht : t.T = tkf T0 T1 T2 k) (hb : t.b = stands rs k) (J : Jn (tkf T0 T1 T2) now cnt es rs) (I : Inj (tkf T0 T1 T2))
    (hT : ∀ x : Int, x = 0 ∨ x = 1 ∨ x = 2 → tkf T0 T1 T2 x = t.T ∨ tkf T0 T1 T2 x = a.T ∨ tkf T0 T1 T2 x = b.T)
    {la : List Addr} {news oth : List (Addr × Obj)} (N : News h₀ L h news) (ne : Nes c t.T t.d) (lead : ∀ a ∈ la, ∀ b ∈ [c.H, t.d, c.C], a ≠ b)
    (hoth : ∀ p ∈ oth, p ∈ tup c es rs ∨ ∀ b ∈ [c.H, t.d, c.C], p.1 ≠ b) (hsub : ∀ p ∈ OT c a b es rs, p ∈ oth) (htn : ∀ p ∈ tup c es rs, p ∈ news)
    (hxt3 : OwnOff c.ext [c.H, t.d, c.C]) {tkc : Tok} {nH : Nat} (m1 : c.hp es nH ∈ news) (m2 : t.di c.M ∈ news) (m3 : c.ci cnt tkc ∈ news) : Ctx18 c es cnt t oth rs la where
  ne := ne
  off := fun p hp b hb => by
    rcases hoth p hp with h | h
    · simp only [List.mem_cons, List.not_mem_nil, or_false] at hb
      rcases hb with rfl | rfl | rfl
      · exact tup_ne N htn m1 (.inl (by simp)) (fun p hp => hxt3 p hp _ (by simp)) p h
      · exact tup_ne N htn m2 (.inl (by simp)) (fun p hp => hxt3 p hp _ (by simp)) p h
      · exact tup_ne N htn m3 (.inl (by simp)) (fun p hp => hxt3 p hp _ (by simp)) p h
    · exact h b hb
  lead := lead
  hpw := J.epw
  hes := fun x hx => hsub _ (List.mem_append_right [_, _, _, _] (tup_e hx))
  hrs := fun x hx => hsub _ (List.mem_append_right [_, _, _, _] (tup_r hx))
  hes3 := J.len ▸ J.len3
  hts := fun x hx => by
    obtain ⟨r, hr, _, _, e⟩ := J.ent hx
    rcases hT _ (J.kn r hr) with h | h | h
    · exact ⟨t.d, by rw [← e, h]; exact .head _⟩
    · exact ⟨a.d, by rw [← e, h]; exact .tail _ (hsub _ (.head _))⟩
    · exact ⟨b.d, by rw [← e, h]; exact .tail _ (hsub _ (.tail _ (.tail _ (.head _))))⟩
  hcnt := J.eclt
  hb0 := fun h => J.two hk (by rw [← hb]; exact h)
  hb1 := fun h => by
    obtain ⟨e, he, q⟩ := J.has (k := k) (by rw [← hb]; exact h)
    exact ⟨e, he, q.trans ht.symm⟩
/-- an install keeps what is common -/
theorem jinst {t : Tsk} {k W : Int} {q : Ent} {es1 : List Ent} {r : Row3} (hk : k = 0 ∨ k = 1 ∨ k = 2) (ht : t.T = tkf T0 T1 T2 k) (hb : t.b = stands rs k) (J : Jn (tkf T0 T1 T2) now cnt es rs) (I : Inj (tkf T0 T1 T2))
    (hqw : q.w = W) (hqc : q.c = cnt) (hqt : q.t = t.T) (hw : r.w = W) (hc : r.c = cnt) (hrk : r.k = k) (hW : W ≤ now + 1999)
    (h1 : t.b = false ∧ es1 = es ∨ t.b = true ∧ ∃ i x, es[i]? = some x ∧ x.t = t.T ∧ (∀ j y, j < i → es[j]? = some y → y.t ≠ t.T) ∧ es1 = hpf (es.eraseIdx i)) :
    Jn (tkf T0 T1 T2) now (cnt + 1) (psh es1 q) (rs.filter (fun r => r.k != k) ++ [r]) ∧ es1.length ≤ 2 ∧ ∀ x ∈ es1, x ∈ es := by
  have J1 : Jn (tkf T0 T1 T2) now cnt es1 (rs.filter fun r => r.k != k) := by
    rcases h1 with ⟨h, rfl⟩ | ⟨h, i, x, hx, hxt, _, rfl⟩
    · rw [filter_none (by rw [← hb]; exact h)]; exact J
    · exact J.drop I hk hx (hxt.trans ht)
  have hs : stands (rs.filter fun r => r.k != k) k = false := by rw [stands_del, if_pos rfl]
  refine ⟨J1.push (hrk.symm ▸ hk) (hrk.symm ▸ hs) (hqw.trans hw.symm) hqc hc (by rw [hrk, ← ht]; exact hqt) (by omega), J1.two hk hs, fun x hx => ?_⟩
  rcases h1 with ⟨h, rfl⟩ | ⟨h, i, x, _, _, _, rfl⟩
  · exact hx
  · exact List.mem_of_mem_eraseIdx ((hpf_perm _).mem_iff.mp hx)
end
end Mine
end

section
open PySem PySem.W PyProof.Rows PySem.Calls
set_option maxRecDepth 100000
set_option maxHeartbeats 4000000
namespace Mine
theorem stp00 {w : World} {s s₀ : Shared} {h₀ : Heap} {L fa : Addr} {cdv : Value} {mg mb : Str → Option Value} {u : Str → Option Value} {Q : Flow → Shared → Prop} {E : Value → Shared → Prop}
  {c : Cst} {TL TM T0 d0 T1 d1 T2 d2 R : Addr} {now cnt x : Int} {es : List Ent} {rs : List Row3} {t0 t1 t2 : Tsk} {u0 u1 u2 : Value} {ocs ock : Obj} {nH nR nM : Nat} {tk3 tkc tknow tkturn tkx tkkd tkk : Tok}
  (X : (hd.heap_39 w.params).In h₀) (T : T18 s₀ mg mb h₀) (S : Sit c L TL TM T0 d0 T1 d1 T2 d2 R now cnt es rs t0 t1 t2 u0 u1 u2 ocs ock) (hx : 0 ≤ x ∧ x ≤ 1999)
  (F : Fr h₀ L s.heap (fun y => if y = Str.ofString "x" then some (.int x tkx) else if y = Str.ofString "kind" then some (.int 0 tkkd) else lawM c.M TL TM R now cnt tknow tkturn u y))
  (N : News h₀ L s.heap (LD c L TL TM R es nH nR nM now tk3 cnt tkc t0 t1 t2 u0 u1 u2 ocs ock rs))
  (dk : ock.data = .cell (some (.int 0 tkk)))
  (hQ : ∀ (cnt' : Int) (es' : List Ent) (rs' : List Row3) (h' : Heap) (m' : Str → Option Value) (tk' : Tok), Rep18 h₀ c L TL TM T0 d0 T1 d1 T2 d2 now cnt' es' rs' h' m' → Q .next { s with heap := h', toks := tk' })
  (B : Below callerA h₀ [] h₀) : wpAny (model Challenge.rw_fe0018_01.row.prog w) (callerA.deeper (lawEnv L fa cdv)) (exec loopIf (lawEnv L fa cdv)) (fun f s' => match f with | .next => wpAny (model Challenge.rw_fe0018_01.row.prog w) (callerA.deeper (lawEnv L fa cdv)) (execs (loopBody.drop 4) (lawEnv L fa cdv)) Q E s' | f => Q f s') E s := by
  obtain ⟨ch, rn, a0, a1, a2, b0, b1, b2, v0, v1, v2, ⟨vs, ds⟩, dk0, pos, J, hxt⟩ := S
  have I := ch.inj
  obtain ⟨a3, a4⟩ := a0; subst a3; subst a4
  obtain ⟨a3, a4⟩ := a1; subst a3; subst a4
  obtain ⟨a3, a4⟩ := a2; subst a3; subst a4
  have ch' := ch
  have rn' := rn
  obtain ⟨h1, h2, h3, h4, h5, h6, h7, h8, h9, h10, h11, h12, h13⟩ := ch
  obtain ⟨r1, r2, r3, r4, r5, r6, r7, r8, r9, r10⟩ := rn
  have hin : ∀ p ∈ tup c es rs, p ∈ LD c L TL TM R es nH nR nM now tk3 cnt tkc t0 t1 t2 u0 u1 u2 ocs ock rs := fun p hp => List.mem_append_right [_, _, _, _, _, _, _, _, _, _, _, _, _, _, _, _] hp
  have K : Ctx18 c es cnt t0 (OT c t1 t2 es rs) rs [R, TM, TL, L + 1 + 1, L + 1] := ctx18 (k := 0) (t := t0) (a := t1) (b := t2) (tkc := tkc) (nH := nH) (by decide) rfl b0 J I (fun y hy => by rcases hy with rfl | rfl | rfl <;> simp [tkf]) N ⟨by omega, by omega, by omega, by omega, by omega, by omega, by omega, by omega, by omega, by omega, by omega, by omega, by omega, by omega, by omega⟩ (fun y hy z hz => by
    simp only [List.mem_cons, List.not_mem_nil, or_false] at hy hz
    rcases hy with rfl | rfl | rfl | rfl | rfl <;> rcases hz with rfl | rfl | rfl <;> (show @Ne Nat _ _; omega)) (fun p hp => by
    simp only [OT, List.mem_cons] at hp
    rcases hp with rfl | rfl | rfl | rfl | hp
    rotate_right
    · exact .inl hp
    all_goals (refine .inr fun z hz => ?_; simp only [List.mem_cons, List.not_mem_nil, or_false] at hz; rcases hz with rfl | rfl | rfl <;> (dsimp only [Cst.hp, Cst.mi, Cst.md, Cst.ci, Cst.cd, Tsk.ti, Tsk.di]; show @Ne Nat _ _; omega))) (fun p hp => hp) hin (fun p hp z hz => hxt p hp z (by simp only [List.mem_cons, List.not_mem_nil, or_false] at hz ⊢; rcases hz with rfl | rfl | rfl <;> simp)) (by k_mem) (by k_mem) (by k_mem)
  have NK : News h₀ L s.heap ((R, PySem.W.listOf (rrefs rs) nR) :: (TM, PySem.W.listOf #[u0, u1, u2] nM) :: (TL, PySem.W.listOf #[.ref t0.T, .ref t1.T, .ref t2.T] 0) :: (L + 1 + 1, ocs) :: (L + 1, ock) :: ML c es nH now tk3 cnt tkc t0 (OT c t1 t2 es rs)) := news_sub N fun p hp => by
    simp only [LD, ML, OT, List.mem_cons] at hp ⊢
    rcases hp with h | h | h | h | h | h | h | h | h | h | h | h | h | h | h | h | h <;> simp only [h, true_or, or_true]
  have hTM : OwnOff (ML c es nH now tk3 cnt tkc t0 (OT c t1 t2 es rs)) [TM] := fun p hp z hz => by
    cases List.mem_singleton.mp hz
    simp only [ML, OT, List.mem_cons] at hp
    rcases hp with rfl | rfl | rfl | rfl | rfl | rfl | rfl | rfl | rfl | rfl | rfl | hp
    rotate_right
    · exact tup_ne N hin (.tail _ (.head _)) (.inl (by simp)) (fun p hp => hxt p hp _ (by simp)) p hp
    all_goals (dsimp only [Cst.hp, Cst.mi, Cst.md, Cst.ci, Cst.cd, Tsk.ti, Tsk.di]; show @Ne Nat _ _; omega)
  refine binst00 (W := 0) (tW := tkx) (vs := none) (mrest := ML c es nH now tk3 cnt tkc t0 (OT c t1 t2 es rs)) (P := PI c es now tk3 cnt t0 (OT c t1 t2 es rs) (x)) X T F (Nat.le_succ_of_le J.len3) (fun r hr => List.mem_append_right [_, _, _, _, _, _, _, _, _, _, _] (tup_r hr)) dk (by omega) (by omega) (by omega) (by omega) NK (pv0 X T K hTM) (fun mrest' D D1 D2 o1 o2 r tW' tturn' u' h' tk' hP hw hc hk F' N' lt ltq hrs' => ?_) B
  obtain ⟨q, es1, nH', tkc', tW, hqw, hqc, hqt, hes1, rfl⟩ := hP
  obtain ⟨J', hl2, hsub⟩ := jinst (k := 0) (W := x) (t := t0) (by decide) rfl b0 J I hqw hqc hqt hw hc hk (by omega) hes1
  have hrr : rrefs (rs.filter (fun r => r.k != 0) ++ [r]) = (((rs.filter fun r => r.k != 0).map fun (e : Row3) => Value.ref e.q) ++ [Value.ref r.q]).toArray := by simp [rrefs]
  rw [← hrr] at N'
  have S2 : Sit c L TL TM t0.T t0.d t1.T t1.d t2.T t2.d D now (cnt + 1) (psh es1 q) (rs.filter (fun r => r.k != 0) ++ [r]) ({ t0 with v := .int (x) tW, b := true }) t1 t2 (.int (x) tW') u1 u2 ocs ock := by
    refine ⟨ch', ⟨?_, ?_, ?_, ?_, ?_, ?_, ?_, ?_, ?_, ?_⟩, ⟨rfl, rfl⟩, ⟨rfl, rfl⟩, ⟨rfl, rfl⟩, by rw [stands_app, hk]; simp, by rw [stands_app, stands_del, if_neg (by decide), hk]; simp [b1], by rw [stands_app, stands_del, if_neg (by decide), hk]; simp [b2], .inr ⟨_, _, _, rfl, rfl, by omega⟩, v1, v2, ⟨_, ds⟩, ⟨_, dk⟩, pos, J', hxt⟩
    · exact Nat.ne_of_gt (lt (TM, _) (by k_mem))
    · exact Nat.ne_of_gt (lt (L + 1 + 1, _) (by k_mem))
    · exact Nat.ne_of_gt (lt (L + 1, _) (by k_mem))
    · exact Nat.ne_of_gt (lt (c.H, _) (by k_mem))
    · exact Nat.ne_of_gt (lt (c.dM, _) (by k_mem))
    · exact Nat.ne_of_gt (lt (c.C, _) (by k_mem))
    · exact Nat.ne_of_gt (lt (t0.d, _) (by k_mem))
    · exact Nat.ne_of_gt (lt (t1.d, _) (by k_mem))
    · exact Nat.ne_of_gt (lt (t2.d, _) (by k_mem))
    · exact fun p hp => Nat.ne_of_lt (lt p (List.mem_append_right [_, _, _, _, _, _, _, _, _, _, _, _, _, _, _, _, _, _, _, _] (tup_x hp)))
  have N2 := news_sub N' (l' := LD c L TL TM D (psh es1 q) nH' 0 nM now tk3 (cnt + 1) tkc' ({ t0 with v := .int (x) tW, b := true }) t1 t2 (.int (x) tW') u1 u2 ocs ock (rs.filter (fun r => r.k != 0) ++ [r])) (fun p hp => by
    simp only [LD, ML, OT, List.mem_cons] at hp ⊢
    rcases hp with h | h | h | h | h | h | h | h | h | h | h | h | h | h | h | h | hp
    rotate_right
    · rcases tup_cases hp with ⟨e, he, rfl⟩ | ⟨y, hy, rfl⟩ | hp
      · rcases List.mem_cons.mp ((psh_perm q hl2).mem_iff.mp he) with rfl | he
        · simp only [true_or, or_true]
        · have := tup_e (c := c) (rs := rs) (hsub e he)
          simp only [this, or_true]
      · rcases List.mem_append.mp hy with hy | hy
        · have := tup_r (c := c) (es := es) (List.mem_filter.mp hy).1
          simp only [this, or_true]
        · cases List.mem_singleton.mp hy
          simp only [true_or, or_true]
      · have := tup_x (c := c) (es := es) (rs := rs) hp
        simp only [this, or_true]
    all_goals simp only [h, true_or, or_true])
  exact fin18 X T S2 F' N2 (fun ocs' u'' h'' tk'' S3 F3 N3 => hQ _ _ _ _ _ _ ⟨_, _, _, _, _, _, _, _, _, _, _, _, _, _, _, _, _, S3, rfl, F3, N3⟩) B
theorem stp01 {w : World} {s s₀ : Shared} {h₀ : Heap} {L fa : Addr} {cdv : Value} {mg mb : Str → Option Value} {u : Str → Option Value} {Q : Flow → Shared → Prop} {E : Value → Shared → Prop}
  {c : Cst} {TL TM T0 d0 T1 d1 T2 d2 R : Addr} {now cnt x : Int} {es : List Ent} {rs : List Row3} {t0 t1 t2 : Tsk} {u0 u1 u2 : Value} {ocs ock : Obj} {nH nR nM : Nat} {tk3 tkc tknow tkturn tkx tkkd tkk : Tok}
  (X : (hd.heap_39 w.params).In h₀) (T : T18 s₀ mg mb h₀) (S : Sit c L TL TM T0 d0 T1 d1 T2 d2 R now cnt es rs t0 t1 t2 u0 u1 u2 ocs ock) (hx : 0 ≤ x ∧ x ≤ 1999)
  (F : Fr h₀ L s.heap (fun y => if y = Str.ofString "x" then some (.int x tkx) else if y = Str.ofString "kind" then some (.int 0 tkkd) else lawM c.M TL TM R now cnt tknow tkturn u y))
  (N : News h₀ L s.heap (LD c L TL TM R es nH nR nM now tk3 cnt tkc t0 t1 t2 u0 u1 u2 ocs ock rs))
  (dk : ock.data = .cell (some (.int 1 tkk)))
  (hQ : ∀ (cnt' : Int) (es' : List Ent) (rs' : List Row3) (h' : Heap) (m' : Str → Option Value) (tk' : Tok), Rep18 h₀ c L TL TM T0 d0 T1 d1 T2 d2 now cnt' es' rs' h' m' → Q .next { s with heap := h', toks := tk' })
  (B : Below callerA h₀ [] h₀) : wpAny (model Challenge.rw_fe0018_01.row.prog w) (callerA.deeper (lawEnv L fa cdv)) (exec loopIf (lawEnv L fa cdv)) (fun f s' => match f with | .next => wpAny (model Challenge.rw_fe0018_01.row.prog w) (callerA.deeper (lawEnv L fa cdv)) (execs (loopBody.drop 4) (lawEnv L fa cdv)) Q E s' | f => Q f s') E s := by
  obtain ⟨ch, rn, a0, a1, a2, b0, b1, b2, v0, v1, v2, ⟨vs, ds⟩, dk0, pos, J, hxt⟩ := S
  have I := ch.inj
  obtain ⟨a3, a4⟩ := a0; subst a3; subst a4
  obtain ⟨a3, a4⟩ := a1; subst a3; subst a4
  obtain ⟨a3, a4⟩ := a2; subst a3; subst a4
  have ch' := ch
  have rn' := rn
  obtain ⟨h1, h2, h3, h4, h5, h6, h7, h8, h9, h10, h11, h12, h13⟩ := ch
  obtain ⟨r1, r2, r3, r4, r5, r6, r7, r8, r9, r10⟩ := rn
  have hin : ∀ p ∈ tup c es rs, p ∈ LD c L TL TM R es nH nR nM now tk3 cnt tkc t0 t1 t2 u0 u1 u2 ocs ock rs := fun p hp => List.mem_append_right [_, _, _, _, _, _, _, _, _, _, _, _, _, _, _, _] hp
  have K : Ctx18 c es cnt t1 (OT c t0 t2 es rs) rs [R, TM, TL, L + 1 + 1, L + 1] := ctx18 (k := 1) (t := t1) (a := t0) (b := t2) (tkc := tkc) (nH := nH) (by decide) rfl b1 J I (fun y hy => by rcases hy with rfl | rfl | rfl <;> simp [tkf]) N ⟨by omega, by omega, by omega, by omega, by omega, by omega, by omega, by omega, by omega, by omega, by omega, by omega, by omega, by omega, by omega⟩ (fun y hy z hz => by
    simp only [List.mem_cons, List.not_mem_nil, or_false] at hy hz
    rcases hy with rfl | rfl | rfl | rfl | rfl <;> rcases hz with rfl | rfl | rfl <;> (show @Ne Nat _ _; omega)) (fun p hp => by
    simp only [OT, List.mem_cons] at hp
    rcases hp with rfl | rfl | rfl | rfl | hp
    rotate_right
    · exact .inl hp
    all_goals (refine .inr fun z hz => ?_; simp only [List.mem_cons, List.not_mem_nil, or_false] at hz; rcases hz with rfl | rfl | rfl <;> (dsimp only [Cst.hp, Cst.mi, Cst.md, Cst.ci, Cst.cd, Tsk.ti, Tsk.di]; show @Ne Nat _ _; omega))) (fun p hp => hp) hin (fun p hp z hz => hxt p hp z (by simp only [List.mem_cons, List.not_mem_nil, or_false] at hz ⊢; rcases hz with rfl | rfl | rfl <;> simp)) (by k_mem) (by k_mem) (by k_mem)
  have NK : News h₀ L s.heap ((R, PySem.W.listOf (rrefs rs) nR) :: (TM, PySem.W.listOf #[u0, u1, u2] nM) :: (TL, PySem.W.listOf #[.ref t0.T, .ref t1.T, .ref t2.T] 0) :: (L + 1 + 1, ocs) :: (L + 1, ock) :: ML c es nH now tk3 cnt tkc t1 (OT c t0 t2 es rs)) := news_sub N fun p hp => by
    simp only [LD, ML, OT, List.mem_cons] at hp ⊢
    rcases hp with h | h | h | h | h | h | h | h | h | h | h | h | h | h | h | h | h <;> simp only [h, true_or, or_true]
  have hTM : OwnOff (ML c es nH now tk3 cnt tkc t1 (OT c t0 t2 es rs)) [TM] := fun p hp z hz => by
    cases List.mem_singleton.mp hz
    simp only [ML, OT, List.mem_cons] at hp
    rcases hp with rfl | rfl | rfl | rfl | rfl | rfl | rfl | rfl | rfl | rfl | rfl | hp
    rotate_right
    · exact tup_ne N hin (.tail _ (.head _)) (.inl (by simp)) (fun p hp => hxt p hp _ (by simp)) p hp
    all_goals (dsimp only [Cst.hp, Cst.mi, Cst.md, Cst.ci, Cst.cd, Tsk.ti, Tsk.di]; show @Ne Nat _ _; omega)
  refine binst01 (W := 0) (tW := tkx) (vs := none) (mrest := ML c es nH now tk3 cnt tkc t1 (OT c t0 t2 es rs)) (P := PI c es now tk3 cnt t1 (OT c t0 t2 es rs) (x)) X T F (Nat.le_succ_of_le J.len3) (fun r hr => List.mem_append_right [_, _, _, _, _, _, _, _, _, _, _] (tup_r hr)) dk (by omega) (by omega) (by omega) (by omega) NK (pv0 X T K hTM) (fun mrest' D D1 D2 o1 o2 r tW' tturn' u' h' tk' hP hw hc hk F' N' lt ltq hrs' => ?_) B
  obtain ⟨q, es1, nH', tkc', tW, hqw, hqc, hqt, hes1, rfl⟩ := hP
  obtain ⟨J', hl2, hsub⟩ := jinst (k := 1) (W := x) (t := t1) (by decide) rfl b1 J I hqw hqc hqt hw hc hk (by omega) hes1
  have hrr : rrefs (rs.filter (fun r => r.k != 1) ++ [r]) = (((rs.filter fun r => r.k != 1).map fun (e : Row3) => Value.ref e.q) ++ [Value.ref r.q]).toArray := by simp [rrefs]
  rw [← hrr] at N'
  have S2 : Sit c L TL TM t0.T t0.d t1.T t1.d t2.T t2.d D now (cnt + 1) (psh es1 q) (rs.filter (fun r => r.k != 1) ++ [r]) t0 ({ t1 with v := .int (x) tW, b := true }) t2 u0 (.int (x) tW') u2 ocs ock := by
    refine ⟨ch', ⟨?_, ?_, ?_, ?_, ?_, ?_, ?_, ?_, ?_, ?_⟩, ⟨rfl, rfl⟩, ⟨rfl, rfl⟩, ⟨rfl, rfl⟩, by rw [stands_app, stands_del, if_neg (by decide), hk]; simp [b0], by rw [stands_app, hk]; simp, by rw [stands_app, stands_del, if_neg (by decide), hk]; simp [b2], v0, .inr ⟨_, _, _, rfl, rfl, by omega⟩, v2, ⟨_, ds⟩, ⟨_, dk⟩, pos, J', hxt⟩
    · exact Nat.ne_of_gt (lt (TM, _) (by k_mem))
    · exact Nat.ne_of_gt (lt (L + 1 + 1, _) (by k_mem))
    · exact Nat.ne_of_gt (lt (L + 1, _) (by k_mem))
    · exact Nat.ne_of_gt (lt (c.H, _) (by k_mem))
    · exact Nat.ne_of_gt (lt (c.dM, _) (by k_mem))
    · exact Nat.ne_of_gt (lt (c.C, _) (by k_mem))
    · exact Nat.ne_of_gt (lt (t0.d, _) (by k_mem))
    · exact Nat.ne_of_gt (lt (t1.d, _) (by k_mem))
    · exact Nat.ne_of_gt (lt (t2.d, _) (by k_mem))
    · exact fun p hp => Nat.ne_of_lt (lt p (List.mem_append_right [_, _, _, _, _, _, _, _, _, _, _, _, _, _, _, _, _, _, _, _] (tup_x hp)))
  have N2 := news_sub N' (l' := LD c L TL TM D (psh es1 q) nH' 0 nM now tk3 (cnt + 1) tkc' t0 ({ t1 with v := .int (x) tW, b := true }) t2 u0 (.int (x) tW') u2 ocs ock (rs.filter (fun r => r.k != 1) ++ [r])) (fun p hp => by
    simp only [LD, ML, OT, List.mem_cons] at hp ⊢
    rcases hp with h | h | h | h | h | h | h | h | h | h | h | h | h | h | h | h | hp
    rotate_right
    · rcases tup_cases hp with ⟨e, he, rfl⟩ | ⟨y, hy, rfl⟩ | hp
      · rcases List.mem_cons.mp ((psh_perm q hl2).mem_iff.mp he) with rfl | he
        · simp only [true_or, or_true]
        · have := tup_e (c := c) (rs := rs) (hsub e he)
          simp only [this, or_true]
      · rcases List.mem_append.mp hy with hy | hy
        · have := tup_r (c := c) (es := es) (List.mem_filter.mp hy).1
          simp only [this, or_true]
        · cases List.mem_singleton.mp hy
          simp only [true_or, or_true]
      · have := tup_x (c := c) (es := es) (rs := rs) hp
        simp only [this, or_true]
    all_goals simp only [h, true_or, or_true])
  exact fin18 X T S2 F' N2 (fun ocs' u'' h'' tk'' S3 F3 N3 => hQ _ _ _ _ _ _ ⟨_, _, _, _, _, _, _, _, _, _, _, _, _, _, _, _, _, S3, rfl, F3, N3⟩) B
theorem stp02 {w : World} {s s₀ : Shared} {h₀ : Heap} {L fa : Addr} {cdv : Value} {mg mb : Str → Option Value} {u : Str → Option Value} {Q : Flow → Shared → Prop} {E : Value → Shared → Prop}
  {c : Cst} {TL TM T0 d0 T1 d1 T2 d2 R : Addr} {now cnt x : Int} {es : List Ent} {rs : List Row3} {t0 t1 t2 : Tsk} {u0 u1 u2 : Value} {ocs ock : Obj} {nH nR nM : Nat} {tk3 tkc tknow tkturn tkx tkkd tkk : Tok}
  (X : (hd.heap_39 w.params).In h₀) (T : T18 s₀ mg mb h₀) (S : Sit c L TL TM T0 d0 T1 d1 T2 d2 R now cnt es rs t0 t1 t2 u0 u1 u2 ocs ock) (hx : 0 ≤ x ∧ x ≤ 1999)
  (F : Fr h₀ L s.heap (fun y => if y = Str.ofString "x" then some (.int x tkx) else if y = Str.ofString "kind" then some (.int 0 tkkd) else lawM c.M TL TM R now cnt tknow tkturn u y))
  (N : News h₀ L s.heap (LD c L TL TM R es nH nR nM now tk3 cnt tkc t0 t1 t2 u0 u1 u2 ocs ock rs))
  (dk : ock.data = .cell (some (.int 2 tkk)))
  (hQ : ∀ (cnt' : Int) (es' : List Ent) (rs' : List Row3) (h' : Heap) (m' : Str → Option Value) (tk' : Tok), Rep18 h₀ c L TL TM T0 d0 T1 d1 T2 d2 now cnt' es' rs' h' m' → Q .next { s with heap := h', toks := tk' })
  (B : Below callerA h₀ [] h₀) : wpAny (model Challenge.rw_fe0018_01.row.prog w) (callerA.deeper (lawEnv L fa cdv)) (exec loopIf (lawEnv L fa cdv)) (fun f s' => match f with | .next => wpAny (model Challenge.rw_fe0018_01.row.prog w) (callerA.deeper (lawEnv L fa cdv)) (execs (loopBody.drop 4) (lawEnv L fa cdv)) Q E s' | f => Q f s') E s := by
  obtain ⟨ch, rn, a0, a1, a2, b0, b1, b2, v0, v1, v2, ⟨vs, ds⟩, dk0, pos, J, hxt⟩ := S
  have I := ch.inj
  obtain ⟨a3, a4⟩ := a0; subst a3; subst a4
  obtain ⟨a3, a4⟩ := a1; subst a3; subst a4
  obtain ⟨a3, a4⟩ := a2; subst a3; subst a4
  have ch' := ch
  have rn' := rn
  obtain ⟨h1, h2, h3, h4, h5, h6, h7, h8, h9, h10, h11, h12, h13⟩ := ch
  obtain ⟨r1, r2, r3, r4, r5, r6, r7, r8, r9, r10⟩ := rn
  have hin : ∀ p ∈ tup c es rs, p ∈ LD c L TL TM R es nH nR nM now tk3 cnt tkc t0 t1 t2 u0 u1 u2 ocs ock rs := fun p hp => List.mem_append_right [_, _, _, _, _, _, _, _, _, _, _, _, _, _, _, _] hp
  have K : Ctx18 c es cnt t2 (OT c t0 t1 es rs) rs [R, TM, TL, L + 1 + 1, L + 1] := ctx18 (k := 2) (t := t2) (a := t0) (b := t1) (tkc := tkc) (nH := nH) (by decide) rfl b2 J I (fun y hy => by rcases hy with rfl | rfl | rfl <;> simp [tkf]) N ⟨by omega, by omega, by omega, by omega, by omega, by omega, by omega, by omega, by omega, by omega, by omega, by omega, by omega, by omega, by omega⟩ (fun y hy z hz => by
    simp only [List.mem_cons, List.not_mem_nil, or_false] at hy hz
    rcases hy with rfl | rfl | rfl | rfl | rfl <;> rcases hz with rfl | rfl | rfl <;> (show @Ne Nat _ _; omega)) (fun p hp => by
    simp only [OT, List.mem_cons] at hp
    rcases hp with rfl | rfl | rfl | rfl | hp
    rotate_right
    · exact .inl hp
    all_goals (refine .inr fun z hz => ?_; simp only [List.mem_cons, List.not_mem_nil, or_false] at hz; rcases hz with rfl | rfl | rfl <;> (dsimp only [Cst.hp, Cst.mi, Cst.md, Cst.ci, Cst.cd, Tsk.ti, Tsk.di]; show @Ne Nat _ _; omega))) (fun p hp => hp) hin (fun p hp z hz => hxt p hp z (by simp only [List.mem_cons, List.not_mem_nil, or_false] at hz ⊢; rcases hz with rfl | rfl | rfl <;> simp)) (by k_mem) (by k_mem) (by k_mem)
  have NK : News h₀ L s.heap ((R, PySem.W.listOf (rrefs rs) nR) :: (TM, PySem.W.listOf #[u0, u1, u2] nM) :: (TL, PySem.W.listOf #[.ref t0.T, .ref t1.T, .ref t2.T] 0) :: (L + 1 + 1, ocs) :: (L + 1, ock) :: ML c es nH now tk3 cnt tkc t2 (OT c t0 t1 es rs)) := news_sub N fun p hp => by
    simp only [LD, ML, OT, List.mem_cons] at hp ⊢
    rcases hp with h | h | h | h | h | h | h | h | h | h | h | h | h | h | h | h | h <;> simp only [h, true_or, or_true]
  have hTM : OwnOff (ML c es nH now tk3 cnt tkc t2 (OT c t0 t1 es rs)) [TM] := fun p hp z hz => by
    cases List.mem_singleton.mp hz
    simp only [ML, OT, List.mem_cons] at hp
    rcases hp with rfl | rfl | rfl | rfl | rfl | rfl | rfl | rfl | rfl | rfl | rfl | hp
    rotate_right
    · exact tup_ne N hin (.tail _ (.head _)) (.inl (by simp)) (fun p hp => hxt p hp _ (by simp)) p hp
    all_goals (dsimp only [Cst.hp, Cst.mi, Cst.md, Cst.ci, Cst.cd, Tsk.ti, Tsk.di]; show @Ne Nat _ _; omega)
  refine binst02 (W := 0) (tW := tkx) (vs := none) (mrest := ML c es nH now tk3 cnt tkc t2 (OT c t0 t1 es rs)) (P := PI c es now tk3 cnt t2 (OT c t0 t1 es rs) (x)) X T F (Nat.le_succ_of_le J.len3) (fun r hr => List.mem_append_right [_, _, _, _, _, _, _, _, _, _, _] (tup_r hr)) dk (by omega) (by omega) (by omega) (by omega) NK (pv0 X T K hTM) (fun mrest' D D1 D2 o1 o2 r tW' tturn' u' h' tk' hP hw hc hk F' N' lt ltq hrs' => ?_) B
  obtain ⟨q, es1, nH', tkc', tW, hqw, hqc, hqt, hes1, rfl⟩ := hP
  obtain ⟨J', hl2, hsub⟩ := jinst (k := 2) (W := x) (t := t2) (by decide) rfl b2 J I hqw hqc hqt hw hc hk (by omega) hes1
  have hrr : rrefs (rs.filter (fun r => r.k != 2) ++ [r]) = (((rs.filter fun r => r.k != 2).map fun (e : Row3) => Value.ref e.q) ++ [Value.ref r.q]).toArray := by simp [rrefs]
  rw [← hrr] at N'
  have S2 : Sit c L TL TM t0.T t0.d t1.T t1.d t2.T t2.d D now (cnt + 1) (psh es1 q) (rs.filter (fun r => r.k != 2) ++ [r]) t0 t1 ({ t2 with v := .int (x) tW, b := true }) u0 u1 (.int (x) tW') ocs ock := by
    refine ⟨ch', ⟨?_, ?_, ?_, ?_, ?_, ?_, ?_, ?_, ?_, ?_⟩, ⟨rfl, rfl⟩, ⟨rfl, rfl⟩, ⟨rfl, rfl⟩, by rw [stands_app, stands_del, if_neg (by decide), hk]; simp [b0], by rw [stands_app, stands_del, if_neg (by decide), hk]; simp [b1], by rw [stands_app, hk]; simp, v0, v1, .inr ⟨_, _, _, rfl, rfl, by omega⟩, ⟨_, ds⟩, ⟨_, dk⟩, pos, J', hxt⟩
    · exact Nat.ne_of_gt (lt (TM, _) (by k_mem))
    · exact Nat.ne_of_gt (lt (L + 1 + 1, _) (by k_mem))
    · exact Nat.ne_of_gt (lt (L + 1, _) (by k_mem))
    · exact Nat.ne_of_gt (lt (c.H, _) (by k_mem))
    · exact Nat.ne_of_gt (lt (c.dM, _) (by k_mem))
    · exact Nat.ne_of_gt (lt (c.C, _) (by k_mem))
    · exact Nat.ne_of_gt (lt (t0.d, _) (by k_mem))
    · exact Nat.ne_of_gt (lt (t1.d, _) (by k_mem))
    · exact Nat.ne_of_gt (lt (t2.d, _) (by k_mem))
    · exact fun p hp => Nat.ne_of_lt (lt p (List.mem_append_right [_, _, _, _, _, _, _, _, _, _, _, _, _, _, _, _, _, _, _, _] (tup_x hp)))
  have N2 := news_sub N' (l' := LD c L TL TM D (psh es1 q) nH' 0 nM now tk3 (cnt + 1) tkc' t0 t1 ({ t2 with v := .int (x) tW, b := true }) u0 u1 (.int (x) tW') ocs ock (rs.filter (fun r => r.k != 2) ++ [r])) (fun p hp => by
    simp only [LD, ML, OT, List.mem_cons] at hp ⊢
    rcases hp with h | h | h | h | h | h | h | h | h | h | h | h | h | h | h | h | hp
    rotate_right
    · rcases tup_cases hp with ⟨e, he, rfl⟩ | ⟨y, hy, rfl⟩ | hp
      · rcases List.mem_cons.mp ((psh_perm q hl2).mem_iff.mp he) with rfl | he
        · simp only [true_or, or_true]
        · have := tup_e (c := c) (rs := rs) (hsub e he)
          simp only [this, or_true]
      · rcases List.mem_append.mp hy with hy | hy
        · have := tup_r (c := c) (es := es) (List.mem_filter.mp hy).1
          simp only [this, or_true]
        · cases List.mem_singleton.mp hy
          simp only [true_or, or_true]
      · have := tup_x (c := c) (es := es) (rs := rs) hp
        simp only [this, or_true]
    all_goals simp only [h, true_or, or_true])
  exact fin18 X T S2 F' N2 (fun ocs' u'' h'' tk'' S3 F3 N3 => hQ _ _ _ _ _ _ ⟨_, _, _, _, _, _, _, _, _, _, _, _, _, _, _, _, _, S3, rfl, F3, N3⟩) B
end Mine
end

section
open PySem PySem.W PyProof.Rows PySem.Calls
set_option maxRecDepth 100000
set_option maxHeartbeats 4000000
namespace Mine
theorem stp10 {w : World} {s s₀ : Shared} {h₀ : Heap} {L fa : Addr} {cdv : Value} {mg mb : Str → Option Value} {u : Str → Option Value} {Q : Flow → Shared → Prop} {E : Value → Shared → Prop}
  {c : Cst} {TL TM T0 d0 T1 d1 T2 d2 R : Addr} {now cnt x : Int} {es : List Ent} {rs : List Row3} {t0 t1 t2 : Tsk} {u0 u1 u2 : Value} {ocs ock : Obj} {nH nR nM : Nat} {tk3 tkc tknow tkturn tkx tkkd tkk : Tok}
  (X : (hd.heap_39 w.params).In h₀) (T : T18 s₀ mg mb h₀) (S : Sit c L TL TM T0 d0 T1 d1 T2 d2 R now cnt es rs t0 t1 t2 u0 u1 u2 ocs ock) (hx : 0 ≤ x ∧ x ≤ 1999)
  (F : Fr h₀ L s.heap (fun y => if y = Str.ofString "x" then some (.int x tkx) else if y = Str.ofString "kind" then some (.int 1 tkkd) else lawM c.M TL TM R now cnt tknow tkturn u y))
  (N : News h₀ L s.heap (LD c L TL TM R es nH nR nM now tk3 cnt tkc t0 t1 t2 u0 u1 u2 ocs ock rs))
  (dk : ock.data = .cell (some (.int 0 tkk)))
  (hQ : ∀ (cnt' : Int) (es' : List Ent) (rs' : List Row3) (h' : Heap) (m' : Str → Option Value) (tk' : Tok), Rep18 h₀ c L TL TM T0 d0 T1 d1 T2 d2 now cnt' es' rs' h' m' → Q .next { s with heap := h', toks := tk' })
  (B : Below callerA h₀ [] h₀) : wpAny (model Challenge.rw_fe0018_01.row.prog w) (callerA.deeper (lawEnv L fa cdv)) (exec loopIf (lawEnv L fa cdv)) (fun f s' => match f with | .next => wpAny (model Challenge.rw_fe0018_01.row.prog w) (callerA.deeper (lawEnv L fa cdv)) (execs (loopBody.drop 4) (lawEnv L fa cdv)) Q E s' | f => Q f s') E s := by
  obtain ⟨ch, rn, a0, a1, a2, b0, b1, b2, v0, v1, v2, ⟨vs, ds⟩, dk0, pos, J, hxt⟩ := S
  have I := ch.inj
  obtain ⟨a3, a4⟩ := a0; subst a3; subst a4
  obtain ⟨a3, a4⟩ := a1; subst a3; subst a4
  obtain ⟨a3, a4⟩ := a2; subst a3; subst a4
  have ch' := ch
  have rn' := rn
  obtain ⟨h1, h2, h3, h4, h5, h6, h7, h8, h9, h10, h11, h12, h13⟩ := ch
  obtain ⟨r1, r2, r3, r4, r5, r6, r7, r8, r9, r10⟩ := rn
  have hin : ∀ p ∈ tup c es rs, p ∈ LD c L TL TM R es nH nR nM now tk3 cnt tkc t0 t1 t2 u0 u1 u2 ocs ock rs := fun p hp => List.mem_append_right [_, _, _, _, _, _, _, _, _, _, _, _, _, _, _, _] hp
  have K : Ctx18 c es cnt t0 (OT c t1 t2 es rs) rs [R, TM, TL, L + 1 + 1, L + 1] := ctx18 (k := 0) (t := t0) (a := t1) (b := t2) (tkc := tkc) (nH := nH) (by decide) rfl b0 J I (fun y hy => by rcases hy with rfl | rfl | rfl <;> simp [tkf]) N ⟨by omega, by omega, by omega, by omega, by omega, by omega, by omega, by omega, by omega, by omega, by omega, by omega, by omega, by omega, by omega⟩ (fun y hy z hz => by
    simp only [List.mem_cons, List.not_mem_nil, or_false] at hy hz
    rcases hy with rfl | rfl | rfl | rfl | rfl <;> rcases hz with rfl | rfl | rfl <;> (show @Ne Nat _ _; omega)) (fun p hp => by
    simp only [OT, List.mem_cons] at hp
    rcases hp with rfl | rfl | rfl | rfl | hp
    rotate_right
    · exact .inl hp
    all_goals (refine .inr fun z hz => ?_; simp only [List.mem_cons, List.not_mem_nil, or_false] at hz; rcases hz with rfl | rfl | rfl <;> (dsimp only [Cst.hp, Cst.mi, Cst.md, Cst.ci, Cst.cd, Tsk.ti, Tsk.di]; show @Ne Nat _ _; omega))) (fun p hp => hp) hin (fun p hp z hz => hxt p hp z (by simp only [List.mem_cons, List.not_mem_nil, or_false] at hz ⊢; rcases hz with rfl | rfl | rfl <;> simp)) (by k_mem) (by k_mem) (by k_mem)
  have NK : News h₀ L s.heap ((R, PySem.W.listOf (rrefs rs) nR) :: (TM, PySem.W.listOf #[u0, u1, u2] nM) :: (TL, PySem.W.listOf #[.ref t0.T, .ref t1.T, .ref t2.T] 0) :: (L + 1 + 1, ocs) :: (L + 1, ock) :: ML c es nH now tk3 cnt tkc t0 (OT c t1 t2 es rs)) := news_sub N fun p hp => by
    simp only [LD, ML, OT, List.mem_cons] at hp ⊢
    rcases hp with h | h | h | h | h | h | h | h | h | h | h | h | h | h | h | h | h <;> simp only [h, true_or, or_true]
  have hTM : OwnOff (ML c es nH now tk3 cnt tkc t0 (OT c t1 t2 es rs)) [TM] := fun p hp z hz => by
    cases List.mem_singleton.mp hz
    simp only [ML, OT, List.mem_cons] at hp
    rcases hp with rfl | rfl | rfl | rfl | rfl | rfl | rfl | rfl | rfl | rfl | rfl | hp
    rotate_right
    · exact tup_ne N hin (.tail _ (.head _)) (.inl (by simp)) (fun p hp => hxt p hp _ (by simp)) p hp
    all_goals (dsimp only [Cst.hp, Cst.mi, Cst.md, Cst.ci, Cst.cd, Tsk.ti, Tsk.di]; show @Ne Nat _ _; omega)
  refine binst10 (W := 0) (tW := tkx) (vs := none) (mrest := ML c es nH now tk3 cnt tkc t0 (OT c t1 t2 es rs)) (P := PI c es now tk3 cnt t0 (OT c t1 t2 es rs) (now + x)) X T F (Nat.le_succ_of_le J.len3) (fun r hr => List.mem_append_right [_, _, _, _, _, _, _, _, _, _, _] (tup_r hr)) dk (by omega) (by omega) (by omega) (by omega) NK (pv1 X T K hTM) (fun mrest' D D1 D2 o1 o2 r tW' tturn' u' h' tk' hP hw hc hk F' N' lt ltq hrs' => ?_) B
  obtain ⟨q, es1, nH', tkc', tW, hqw, hqc, hqt, hes1, rfl⟩ := hP
  obtain ⟨J', hl2, hsub⟩ := jinst (k := 0) (W := now + x) (t := t0) (by decide) rfl b0 J I hqw hqc hqt hw hc hk (by omega) hes1
  have hrr : rrefs (rs.filter (fun r => r.k != 0) ++ [r]) = (((rs.filter fun r => r.k != 0).map fun (e : Row3) => Value.ref e.q) ++ [Value.ref r.q]).toArray := by simp [rrefs]
  rw [← hrr] at N'
  have S2 : Sit c L TL TM t0.T t0.d t1.T t1.d t2.T t2.d D now (cnt + 1) (psh es1 q) (rs.filter (fun r => r.k != 0) ++ [r]) ({ t0 with v := .int (now + x) tW, b := true }) t1 t2 (.int (now + x) tW') u1 u2 ocs ock := by
    refine ⟨ch', ⟨?_, ?_, ?_, ?_, ?_, ?_, ?_, ?_, ?_, ?_⟩, ⟨rfl, rfl⟩, ⟨rfl, rfl⟩, ⟨rfl, rfl⟩, by rw [stands_app, hk]; simp, by rw [stands_app, stands_del, if_neg (by decide), hk]; simp [b1], by rw [stands_app, stands_del, if_neg (by decide), hk]; simp [b2], .inr ⟨_, _, _, rfl, rfl, by omega⟩, v1, v2, ⟨_, ds⟩, ⟨_, dk⟩, pos, J', hxt⟩
    · exact Nat.ne_of_gt (lt (TM, _) (by k_mem))
    · exact Nat.ne_of_gt (lt (L + 1 + 1, _) (by k_mem))
    · exact Nat.ne_of_gt (lt (L + 1, _) (by k_mem))
    · exact Nat.ne_of_gt (lt (c.H, _) (by k_mem))
    · exact Nat.ne_of_gt (lt (c.dM, _) (by k_mem))
    · exact Nat.ne_of_gt (lt (c.C, _) (by k_mem))
    · exact Nat.ne_of_gt (lt (t0.d, _) (by k_mem))
    · exact Nat.ne_of_gt (lt (t1.d, _) (by k_mem))
    · exact Nat.ne_of_gt (lt (t2.d, _) (by k_mem))
    · exact fun p hp => Nat.ne_of_lt (lt p (List.mem_append_right [_, _, _, _, _, _, _, _, _, _, _, _, _, _, _, _, _, _, _, _] (tup_x hp)))
  have N2 := news_sub N' (l' := LD c L TL TM D (psh es1 q) nH' 0 nM now tk3 (cnt + 1) tkc' ({ t0 with v := .int (now + x) tW, b := true }) t1 t2 (.int (now + x) tW') u1 u2 ocs ock (rs.filter (fun r => r.k != 0) ++ [r])) (fun p hp => by
    simp only [LD, ML, OT, List.mem_cons] at hp ⊢
    rcases hp with h | h | h | h | h | h | h | h | h | h | h | h | h | h | h | h | hp
    rotate_right
    · rcases tup_cases hp with ⟨e, he, rfl⟩ | ⟨y, hy, rfl⟩ | hp
      · rcases List.mem_cons.mp ((psh_perm q hl2).mem_iff.mp he) with rfl | he
        · simp only [true_or, or_true]
        · have := tup_e (c := c) (rs := rs) (hsub e he)
          simp only [this, or_true]
      · rcases List.mem_append.mp hy with hy | hy
        · have := tup_r (c := c) (es := es) (List.mem_filter.mp hy).1
          simp only [this, or_true]
        · cases List.mem_singleton.mp hy
          simp only [true_or, or_true]
      · have := tup_x (c := c) (es := es) (rs := rs) hp
        simp only [this, or_true]
    all_goals simp only [h, true_or, or_true])
  exact fin18 X T S2 F' N2 (fun ocs' u'' h'' tk'' S3 F3 N3 => hQ _ _ _ _ _ _ ⟨_, _, _, _, _, _, _, _, _, _, _, _, _, _, _, _, _, S3, rfl, F3, N3⟩) B
theorem stp11 {w : World} {s s₀ : Shared} {h₀ : Heap} {L fa : Addr} {cdv : Value} {mg mb : Str → Option Value} {u : Str → Option Value} {Q : Flow → Shared → Prop} {E : Value → Shared → Prop}
  {c : Cst} {TL TM T0 d0 T1 d1 T2 d2 R : Addr} {now cnt x : Int} {es : List Ent} {rs : List Row3} {t0 t1 t2 : Tsk} {u0 u1 u2 : Value} {ocs ock : Obj} {nH nR nM : Nat} {tk3 tkc tknow tkturn tkx tkkd tkk : Tok}
  (X : (hd.heap_39 w.params).In h₀) (T : T18 s₀ mg mb h₀) (S : Sit c L TL TM T0 d0 T1 d1 T2 d2 R now cnt es rs t0 t1 t2 u0 u1 u2 ocs ock) (hx : 0 ≤ x ∧ x ≤ 1999)
  (F : Fr h₀ L s.heap (fun y => if y = Str.ofString "x" then some (.int x tkx) else if y = Str.ofString "kind" then some (.int 1 tkkd) else lawM c.M TL TM R now cnt tknow tkturn u y))
  (N : News h₀ L s.heap (LD c L TL TM R es nH nR nM now tk3 cnt tkc t0 t1 t2 u0 u1 u2 ocs ock rs))
  (dk : ock.data = .cell (some (.int 1 tkk)))
  (hQ : ∀ (cnt' : Int) (es' : List Ent) (rs' : List Row3) (h' : Heap) (m' : Str → Option Value) (tk' : Tok), Rep18 h₀ c L TL TM T0 d0 T1 d1 T2 d2 now cnt' es' rs' h' m' → Q .next { s with heap := h', toks := tk' })
  (B : Below callerA h₀ [] h₀) : wpAny (model Challenge.rw_fe0018_01.row.prog w) (callerA.deeper (lawEnv L fa cdv)) (exec loopIf (lawEnv L fa cdv)) (fun f s' => match f with | .next => wpAny (model Challenge.rw_fe0018_01.row.prog w) (callerA.deeper (lawEnv L fa cdv)) (execs (loopBody.drop 4) (lawEnv L fa cdv)) Q E s' | f => Q f s') E s := by
  obtain ⟨ch, rn, a0, a1, a2, b0, b1, b2, v0, v1, v2, ⟨vs, ds⟩, dk0, pos, J, hxt⟩ := S
  have I := ch.inj
  obtain ⟨a3, a4⟩ := a0; subst a3; subst a4
  obtain ⟨a3, a4⟩ := a1; subst a3; subst a4
  obtain ⟨a3, a4⟩ := a2; subst a3; subst a4
  have ch' := ch
  have rn' := rn
  obtain ⟨h1, h2, h3, h4, h5, h6, h7, h8, h9, h10, h11, h12, h13⟩ := ch
  obtain ⟨r1, r2, r3, r4, r5, r6, r7, r8, r9, r10⟩ := rn
  have hin : ∀ p ∈ tup c es rs, p ∈ LD c L TL TM R es nH nR nM now tk3 cnt tkc t0 t1 t2 u0 u1 u2 ocs ock rs := fun p hp => List.mem_append_right [_, _, _, _, _, _, _, _, _, _, _, _, _, _, _, _] hp
  have K : Ctx18 c es cnt t1 (OT c t0 t2 es rs) rs [R, TM, TL, L + 1 + 1, L + 1] := ctx18 (k := 1) (t := t1) (a := t0) (b := t2) (tkc := tkc) (nH := nH) (by decide) rfl b1 J I (fun y hy => by rcases hy with rfl | rfl | rfl <;> simp [tkf]) N ⟨by omega, by omega, by omega, by omega, by omega, by omega, by omega, by omega, by omega, by omega, by omega, by omega, by omega, by omega, by omega⟩ (fun y hy z hz => by
    simp only [List.mem_cons, List.not_mem_nil, or_false] at hy hz
    rcases hy with rfl | rfl | rfl | rfl | rfl <;> rcases hz with rfl | rfl | rfl <;> (show @Ne Nat _ _; omega)) (fun p hp => by
    simp only [OT, List.mem_cons] at hp
    rcases hp with rfl | rfl | rfl | rfl | hp
    rotate_right
    · exact .inl hp
    all_goals (refine .inr fun z hz => ?_; simp only [List.mem_cons, List.not_mem_nil, or_false] at hz; rcases hz with rfl | rfl | rfl <;> (dsimp only [Cst.hp, Cst.mi, Cst.md, Cst.ci, Cst.cd, Tsk.ti, Tsk.di]; show @Ne Nat _ _; omega))) (fun p hp => hp) hin (fun p hp z hz => hxt p hp z (by simp only [List.mem_cons, List.not_mem_nil, or_false] at hz ⊢; rcases hz with rfl | rfl | rfl <;> simp)) (by k_mem) (by k_mem) (by k_mem)
  have NK : News h₀ L s.heap ((R, PySem.W.listOf (rrefs rs) nR) :: (TM, PySem.W.listOf #[u0, u1, u2] nM) :: (TL, PySem.W.listOf #[.ref t0.T, .ref t1.T, .ref t2.T] 0) :: (L + 1 + 1, ocs) :: (L + 1, ock) :: ML c es nH now tk3 cnt tkc t1 (OT c t0 t2 es rs)) := news_sub N fun p hp => by
    simp only [LD, ML, OT, List.mem_cons] at hp ⊢
    rcases hp with h | h | h | h | h | h | h | h | h | h | h | h | h | h | h | h | h <;> simp only [h, true_or, or_true]
  have hTM : OwnOff (ML c es nH now tk3 cnt tkc t1 (OT c t0 t2 es rs)) [TM] := fun p hp z hz => by
    cases List.mem_singleton.mp hz
    simp only [ML, OT, List.mem_cons] at hp
    rcases hp with rfl | rfl | rfl | rfl | rfl | rfl | rfl | rfl | rfl | rfl | rfl | hp
    rotate_right
    · exact tup_ne N hin (.tail _ (.head _)) (.inl (by simp)) (fun p hp => hxt p hp _ (by simp)) p hp
    all_goals (dsimp only [Cst.hp, Cst.mi, Cst.md, Cst.ci, Cst.cd, Tsk.ti, Tsk.di]; show @Ne Nat _ _; omega)
  refine binst11 (W := 0) (tW := tkx) (vs := none) (mrest := ML c es nH now tk3 cnt tkc t1 (OT c t0 t2 es rs)) (P := PI c es now tk3 cnt t1 (OT c t0 t2 es rs) (now + x)) X T F (Nat.le_succ_of_le J.len3) (fun r hr => List.mem_append_right [_, _, _, _, _, _, _, _, _, _, _] (tup_r hr)) dk (by omega) (by omega) (by omega) (by omega) NK (pv1 X T K hTM) (fun mrest' D D1 D2 o1 o2 r tW' tturn' u' h' tk' hP hw hc hk F' N' lt ltq hrs' => ?_) B
  obtain ⟨q, es1, nH', tkc', tW, hqw, hqc, hqt, hes1, rfl⟩ := hP
  obtain ⟨J', hl2, hsub⟩ := jinst (k := 1) (W := now + x) (t := t1) (by decide) rfl b1 J I hqw hqc hqt hw hc hk (by omega) hes1
  have hrr : rrefs (rs.filter (fun r => r.k != 1) ++ [r]) = (((rs.filter fun r => r.k != 1).map fun (e : Row3) => Value.ref e.q) ++ [Value.ref r.q]).toArray := by simp [rrefs]
  rw [← hrr] at N'
  have S2 : Sit c L TL TM t0.T t0.d t1.T t1.d t2.T t2.d D now (cnt + 1) (psh es1 q) (rs.filter (fun r => r.k != 1) ++ [r]) t0 ({ t1 with v := .int (now + x) tW, b := true }) t2 u0 (.int (now + x) tW') u2 ocs ock := by
    refine ⟨ch', ⟨?_, ?_, ?_, ?_, ?_, ?_, ?_, ?_, ?_, ?_⟩, ⟨rfl, rfl⟩, ⟨rfl, rfl⟩, ⟨rfl, rfl⟩, by rw [stands_app, stands_del, if_neg (by decide), hk]; simp [b0], by rw [stands_app, hk]; simp, by rw [stands_app, stands_del, if_neg (by decide), hk]; simp [b2], v0, .inr ⟨_, _, _, rfl, rfl, by omega⟩, v2, ⟨_, ds⟩, ⟨_, dk⟩, pos, J', hxt⟩
    · exact Nat.ne_of_gt (lt (TM, _) (by k_mem))
    · exact Nat.ne_of_gt (lt (L + 1 + 1, _) (by k_mem))
    · exact Nat.ne_of_gt (lt (L + 1, _) (by k_mem))
    · exact Nat.ne_of_gt (lt (c.H, _) (by k_mem))
    · exact Nat.ne_of_gt (lt (c.dM, _) (by k_mem))
    · exact Nat.ne_of_gt (lt (c.C, _) (by k_mem))
    · exact Nat.ne_of_gt (lt (t0.d, _) (by k_mem))
    · exact Nat.ne_of_gt (lt (t1.d, _) (by k_mem))
    · exact Nat.ne_of_gt (lt (t2.d, _) (by k_mem))
    · exact fun p hp => Nat.ne_of_lt (lt p (List.mem_append_right [_, _, _, _, _, _, _, _, _, _, _, _, _, _, _, _, _, _, _, _] (tup_x hp)))
  have N2 := news_sub N' (l' := LD c L TL TM D (psh es1 q) nH' 0 nM now tk3 (cnt + 1) tkc' t0 ({ t1 with v := .int (now + x) tW, b := true }) t2 u0 (.int (now + x) tW') u2 ocs ock (rs.filter (fun r => r.k != 1) ++ [r])) (fun p hp => by
    simp only [LD, ML, OT, List.mem_cons] at hp ⊢
    rcases hp with h | h | h | h | h | h | h | h | h | h | h | h | h | h | h | h | hp
    rotate_right
    · rcases tup_cases hp with ⟨e, he, rfl⟩ | ⟨y, hy, rfl⟩ | hp
      · rcases List.mem_cons.mp ((psh_perm q hl2).mem_iff.mp he) with rfl | he
        · simp only [true_or, or_true]
        · have := tup_e (c := c) (rs := rs) (hsub e he)
          simp only [this, or_true]
      · rcases List.mem_append.mp hy with hy | hy
        · have := tup_r (c := c) (es := es) (List.mem_filter.mp hy).1
          simp only [this, or_true]
        · cases List.mem_singleton.mp hy
          simp only [true_or, or_true]
      · have := tup_x (c := c) (es := es) (rs := rs) hp
        simp only [this, or_true]
    all_goals simp only [h, true_or, or_true])
  exact fin18 X T S2 F' N2 (fun ocs' u'' h'' tk'' S3 F3 N3 => hQ _ _ _ _ _ _ ⟨_, _, _, _, _, _, _, _, _, _, _, _, _, _, _, _, _, S3, rfl, F3, N3⟩) B
theorem stp12 {w : World} {s s₀ : Shared} {h₀ : Heap} {L fa : Addr} {cdv : Value} {mg mb : Str → Option Value} {u : Str → Option Value} {Q : Flow → Shared → Prop} {E : Value → Shared → Prop}
  {c : Cst} {TL TM T0 d0 T1 d1 T2 d2 R : Addr} {now cnt x : Int} {es : List Ent} {rs : List Row3} {t0 t1 t2 : Tsk} {u0 u1 u2 : Value} {ocs ock : Obj} {nH nR nM : Nat} {tk3 tkc tknow tkturn tkx tkkd tkk : Tok}
  (X : (hd.heap_39 w.params).In h₀) (T : T18 s₀ mg mb h₀) (S : Sit c L TL TM T0 d0 T1 d1 T2 d2 R now cnt es rs t0 t1 t2 u0 u1 u2 ocs ock) (hx : 0 ≤ x ∧ x ≤ 1999)
  (F : Fr h₀ L s.heap (fun y => if y = Str.ofString "x" then some (.int x tkx) else if y = Str.ofString "kind" then some (.int 1 tkkd) else lawM c.M TL TM R now cnt tknow tkturn u y))
  (N : News h₀ L s.heap (LD c L TL TM R es nH nR nM now tk3 cnt tkc t0 t1 t2 u0 u1 u2 ocs ock rs))
  (dk : ock.data = .cell (some (.int 2 tkk)))
  (hQ : ∀ (cnt' : Int) (es' : List Ent) (rs' : List Row3) (h' : Heap) (m' : Str → Option Value) (tk' : Tok), Rep18 h₀ c L TL TM T0 d0 T1 d1 T2 d2 now cnt' es' rs' h' m' → Q .next { s with heap := h', toks := tk' })
  (B : Below callerA h₀ [] h₀) : wpAny (model Challenge.rw_fe0018_01.row.prog w) (callerA.deeper (lawEnv L fa cdv)) (exec loopIf (lawEnv L fa cdv)) (fun f s' => match f with | .next => wpAny (model Challenge.rw_fe0018_01.row.prog w) (callerA.deeper (lawEnv L fa cdv)) (execs (loopBody.drop 4) (lawEnv L fa cdv)) Q E s' | f => Q f s') E s := by
  obtain ⟨ch, rn, a0, a1, a2, b0, b1, b2, v0, v1, v2, ⟨vs, ds⟩, dk0, pos, J, hxt⟩ := S
  have I := ch.inj
  obtain ⟨a3, a4⟩ := a0; subst a3; subst a4
  obtain ⟨a3, a4⟩ := a1; subst a3; subst a4
  obtain ⟨a3, a4⟩ := a2; subst a3; subst a4
  have ch' := ch
  have rn' := rn
  obtain ⟨h1, h2, h3, h4, h5, h6, h7, h8, h9, h10, h11, h12, h13⟩ := ch
  obtain ⟨r1, r2, r3, r4, r5, r6, r7, r8, r9, r10⟩ := rn
  have hin : ∀ p ∈ tup c es rs, p ∈ LD c L TL TM R es nH nR nM now tk3 cnt tkc t0 t1 t2 u0 u1 u2 ocs ock rs := fun p hp => List.mem_append_right [_, _, _, _, _, _, _, _, _, _, _, _, _, _, _, _] hp
  have K : Ctx18 c es cnt t2 (OT c t0 t1 es rs) rs [R, TM, TL, L + 1 + 1, L + 1] := ctx18 (k := 2) (t := t2) (a := t0) (b := t1) (tkc := tkc) (nH := nH) (by decide) rfl b2 J I (fun y hy => by rcases hy with rfl | rfl | rfl <;> simp [tkf]) N ⟨by omega, by omega, by omega, by omega, by omega, by omega, by omega, by omega, by omega, by omega, by omega, by omega, by omega, by omega, by omega⟩ (fun y hy z hz => by
    simp only [List.mem_cons, List.not_mem_nil, or_false] at hy hz
    rcases hy with rfl | rfl | rfl | rfl | rfl <;> rcases hz with rfl | rfl | rfl <;> (show @Ne Nat _ _; omega)) (fun p hp => by
    simp only [OT, List.mem_cons] at hp
    rcases hp with rfl | rfl | rfl | rfl | hp
    rotate_right
    · exact .inl hp
    all_goals (refine .inr fun z hz => ?_; simp only [List.mem_cons, List.not_mem_nil, or_false] at hz; rcases hz with rfl | rfl | rfl <;> (dsimp only [Cst.hp, Cst.mi, Cst.md, Cst.ci, Cst.cd, Tsk.ti, Tsk.di]; show @Ne Nat _ _; omega))) (fun p hp => hp) hin (fun p hp z hz => hxt p hp z (by simp only [List.mem_cons, List.not_mem_nil, or_false] at hz ⊢; rcases hz with rfl | rfl | rfl <;> simp)) (by k_mem) (by k_mem) (by k_mem)
  have NK : News h₀ L s.heap ((R, PySem.W.listOf (rrefs rs) nR) :: (TM, PySem.W.listOf #[u0, u1, u2] nM) :: (TL, PySem.W.listOf #[.ref t0.T, .ref t1.T, .ref t2.T] 0) :: (L + 1 + 1, ocs) :: (L + 1, ock) :: ML c es nH now tk3 cnt tkc t2 (OT c t0 t1 es rs)) := news_sub N fun p hp => by
    simp only [LD, ML, OT, List.mem_cons] at hp ⊢
    rcases hp with h | h | h | h | h | h | h | h | h | h | h | h | h | h | h | h | h <;> simp only [h, true_or, or_true]
  have hTM : OwnOff (ML c es nH now tk3 cnt tkc t2 (OT c t0 t1 es rs)) [TM] := fun p hp z hz => by
    cases List.mem_singleton.mp hz
    simp only [ML, OT, List.mem_cons] at hp
    rcases hp with rfl | rfl | rfl | rfl | rfl | rfl | rfl | rfl | rfl | rfl | rfl | hp
    rotate_right
    · exact tup_ne N hin (.tail _ (.head _)) (.inl (by simp)) (fun p hp => hxt p hp _ (by simp)) p hp
    all_goals (dsimp only [Cst.hp, Cst.mi, Cst.md, Cst.ci, Cst.cd, Tsk.ti, Tsk.di]; show @Ne Nat _ _; omega)
  refine binst12 (W := 0) (tW := tkx) (vs := none) (mrest := ML c es nH now tk3 cnt tkc t2 (OT c t0 t1 es rs)) (P := PI c es now tk3 cnt t2 (OT c t0 t1 es rs) (now + x)) X T F (Nat.le_succ_of_le J.len3) (fun r hr => List.mem_append_right [_, _, _, _, _, _, _, _, _, _, _] (tup_r hr)) dk (by omega) (by omega) (by omega) (by omega) NK (pv1 X T K hTM) (fun mrest' D D1 D2 o1 o2 r tW' tturn' u' h' tk' hP hw hc hk F' N' lt ltq hrs' => ?_) B
  obtain ⟨q, es1, nH', tkc', tW, hqw, hqc, hqt, hes1, rfl⟩ := hP
  obtain ⟨J', hl2, hsub⟩ := jinst (k := 2) (W := now + x) (t := t2) (by decide) rfl b2 J I hqw hqc hqt hw hc hk (by omega) hes1
  have hrr : rrefs (rs.filter (fun r => r.k != 2) ++ [r]) = (((rs.filter fun r => r.k != 2).map fun (e : Row3) => Value.ref e.q) ++ [Value.ref r.q]).toArray := by simp [rrefs]
  rw [← hrr] at N'
  have S2 : Sit c L TL TM t0.T t0.d t1.T t1.d t2.T t2.d D now (cnt + 1) (psh es1 q) (rs.filter (fun r => r.k != 2) ++ [r]) t0 t1 ({ t2 with v := .int (now + x) tW, b := true }) u0 u1 (.int (now + x) tW') ocs ock := by
    refine ⟨ch', ⟨?_, ?_, ?_, ?_, ?_, ?_, ?_, ?_, ?_, ?_⟩, ⟨rfl, rfl⟩, ⟨rfl, rfl⟩, ⟨rfl, rfl⟩, by rw [stands_app, stands_del, if_neg (by decide), hk]; simp [b0], by rw [stands_app, stands_del, if_neg (by decide), hk]; simp [b1], by rw [stands_app, hk]; simp, v0, v1, .inr ⟨_, _, _, rfl, rfl, by omega⟩, ⟨_, ds⟩, ⟨_, dk⟩, pos, J', hxt⟩
    · exact Nat.ne_of_gt (lt (TM, _) (by k_mem))
    · exact Nat.ne_of_gt (lt (L + 1 + 1, _) (by k_mem))
    · exact Nat.ne_of_gt (lt (L + 1, _) (by k_mem))
    · exact Nat.ne_of_gt (lt (c.H, _) (by k_mem))
    · exact Nat.ne_of_gt (lt (c.dM, _) (by k_mem))
    · exact Nat.ne_of_gt (lt (c.C, _) (by k_mem))
    · exact Nat.ne_of_gt (lt (t0.d, _) (by k_mem))
    · exact Nat.ne_of_gt (lt (t1.d, _) (by k_mem))
    · exact Nat.ne_of_gt (lt (t2.d, _) (by k_mem))
    · exact fun p hp => Nat.ne_of_lt (lt p (List.mem_append_right [_, _, _, _, _, _, _, _, _, _, _, _, _, _, _, _, _, _, _, _] (tup_x hp)))
  have N2 := news_sub N' (l' := LD c L TL TM D (psh es1 q) nH' 0 nM now tk3 (cnt + 1) tkc' t0 t1 ({ t2 with v := .int (now + x) tW, b := true }) u0 u1 (.int (now + x) tW') ocs ock (rs.filter (fun r => r.k != 2) ++ [r])) (fun p hp => by
    simp only [LD, ML, OT, List.mem_cons] at hp ⊢
    rcases hp with h | h | h | h | h | h | h | h | h | h | h | h | h | h | h | h | hp
    rotate_right
    · rcases tup_cases hp with ⟨e, he, rfl⟩ | ⟨y, hy, rfl⟩ | hp
      · rcases List.mem_cons.mp ((psh_perm q hl2).mem_iff.mp he) with rfl | he
        · simp only [true_or, or_true]
        · have := tup_e (c := c) (rs := rs) (hsub e he)
          simp only [this, or_true]
      · rcases List.mem_append.mp hy with hy | hy
        · have := tup_r (c := c) (es := es) (List.mem_filter.mp hy).1
          simp only [this, or_true]
        · cases List.mem_singleton.mp hy
          simp only [true_or, or_true]
      · have := tup_x (c := c) (es := es) (rs := rs) hp
        simp only [this, or_true]
    all_goals simp only [h, true_or, or_true])
  exact fin18 X T S2 F' N2 (fun ocs' u'' h'' tk'' S3 F3 N3 => hQ _ _ _ _ _ _ ⟨_, _, _, _, _, _, _, _, _, _, _, _, _, _, _, _, _, S3, rfl, F3, N3⟩) B
end Mine
end

section
open PySem PySem.W PyProof.Rows PySem.Calls
set_option maxRecDepth 100000
set_option maxHeartbeats 4000000
namespace Mine
theorem stp20 {w : World} {s s₀ : Shared} {h₀ : Heap} {L fa : Addr} {cdv : Value} {mg mb : Str → Option Value} {u : Str → Option Value} {Q : Flow → Shared → Prop} {E : Value → Shared → Prop}
  {c : Cst} {TL TM T0 d0 T1 d1 T2 d2 R : Addr} {now cnt x : Int} {es : List Ent} {rs : List Row3} {t0 t1 t2 : Tsk} {u0 u1 u2 : Value} {ocs ock : Obj} {nH nR nM : Nat} {tk3 tkc tknow tkturn tkx tkkd tkk : Tok}
  (X : (hd.heap_39 w.params).In h₀) (T : T18 s₀ mg mb h₀) (S : Sit c L TL TM T0 d0 T1 d1 T2 d2 R now cnt es rs t0 t1 t2 u0 u1 u2 ocs ock) (hx : 0 ≤ x ∧ x ≤ 1999)
  (F : Fr h₀ L s.heap (fun y => if y = Str.ofString "x" then some (.int x tkx) else if y = Str.ofString "kind" then some (.int 2 tkkd) else lawM c.M TL TM R now cnt tknow tkturn u y))
  (N : News h₀ L s.heap (LD c L TL TM R es nH nR nM now tk3 cnt tkc t0 t1 t2 u0 u1 u2 ocs ock rs))
  {W : Int} {tW0 tW1 : Tok}
  (hv : t0.v = .int W tW0) (hu : u0 = .int W tW1) (hW9 : W ≤ now + 1999)
  (dk : ock.data = .cell (some (.int 0 tkk)))
  (hQ : ∀ (cnt' : Int) (es' : List Ent) (rs' : List Row3) (h' : Heap) (m' : Str → Option Value) (tk' : Tok), Rep18 h₀ c L TL TM T0 d0 T1 d1 T2 d2 now cnt' es' rs' h' m' → Q .next { s with heap := h', toks := tk' })
  (B : Below callerA h₀ [] h₀) : wpAny (model Challenge.rw_fe0018_01.row.prog w) (callerA.deeper (lawEnv L fa cdv)) (exec loopIf (lawEnv L fa cdv)) (fun f s' => match f with | .next => wpAny (model Challenge.rw_fe0018_01.row.prog w) (callerA.deeper (lawEnv L fa cdv)) (execs (loopBody.drop 4) (lawEnv L fa cdv)) Q E s' | f => Q f s') E s := by
  obtain ⟨ch, rn, a0, a1, a2, b0, b1, b2, v0, v1, v2, ⟨vs, ds⟩, dk0, pos, J, hxt⟩ := S
  have I := ch.inj
  obtain ⟨a3, a4⟩ := a0; subst a3; subst a4
  obtain ⟨a3, a4⟩ := a1; subst a3; subst a4
  obtain ⟨a3, a4⟩ := a2; subst a3; subst a4
  have ch' := ch
  have rn' := rn
  obtain ⟨h1, h2, h3, h4, h5, h6, h7, h8, h9, h10, h11, h12, h13⟩ := ch
  obtain ⟨r1, r2, r3, r4, r5, r6, r7, r8, r9, r10⟩ := rn
  have hin : ∀ p ∈ tup c es rs, p ∈ LD c L TL TM R es nH nR nM now tk3 cnt tkc t0 t1 t2 u0 u1 u2 ocs ock rs := fun p hp => List.mem_append_right [_, _, _, _, _, _, _, _, _, _, _, _, _, _, _, _] hp
  have K : Ctx18 c es cnt t0 (OT c t1 t2 es rs) rs [R, TM, TL, L + 1 + 1, L + 1] := ctx18 (k := 0) (t := t0) (a := t1) (b := t2) (tkc := tkc) (nH := nH) (by decide) rfl b0 J I (fun y hy => by rcases hy with rfl | rfl | rfl <;> simp [tkf]) N ⟨by omega, by omega, by omega, by omega, by omega, by omega, by omega, by omega, by omega, by omega, by omega, by omega, by omega, by omega, by omega⟩ (fun y hy z hz => by
    simp only [List.mem_cons, List.not_mem_nil, or_false] at hy hz
    rcases hy with rfl | rfl | rfl | rfl | rfl <;> rcases hz with rfl | rfl | rfl <;> (show @Ne Nat _ _; omega)) (fun p hp => by
    simp only [OT, List.mem_cons] at hp
    rcases hp with rfl | rfl | rfl | rfl | hp
    rotate_right
    · exact .inl hp
    all_goals (refine .inr fun z hz => ?_; simp only [List.mem_cons, List.not_mem_nil, or_false] at hz; rcases hz with rfl | rfl | rfl <;> (dsimp only [Cst.hp, Cst.mi, Cst.md, Cst.ci, Cst.cd, Tsk.ti, Tsk.di]; show @Ne Nat _ _; omega))) (fun p hp => hp) hin (fun p hp z hz => hxt p hp z (by simp only [List.mem_cons, List.not_mem_nil, or_false] at hz ⊢; rcases hz with rfl | rfl | rfl <;> simp)) (by k_mem) (by k_mem) (by k_mem)
  subst hu
  have et : { t0 with v := .int W tW0 } = t0 := by rw [← hv]
  have NK : News h₀ L s.heap ((R, PySem.W.listOf (rrefs rs) nR) :: (TM, PySem.W.listOf #[.int W tW1, u1, u2] nM) :: (TL, PySem.W.listOf #[.ref t0.T, .ref t1.T, .ref t2.T] 0) :: (L + 1 + 1, ocs) :: (L + 1, ock) :: ML c es nH now tk3 cnt tkc t0 (OT c t1 t2 es rs)) := news_sub N fun p hp => by
    simp only [LD, ML, OT, List.mem_cons] at hp ⊢
    rcases hp with h | h | h | h | h | h | h | h | h | h | h | h | h | h | h | h | h <;> simp only [h, true_or, or_true]
  have hTM : OwnOff (ML c es nH now tk3 cnt tkc t0 (OT c t1 t2 es rs)) [TM] := fun p hp z hz => by
    cases List.mem_singleton.mp hz
    simp only [ML, OT, List.mem_cons] at hp
    rcases hp with rfl | rfl | rfl | rfl | rfl | rfl | rfl | rfl | rfl | rfl | rfl | hp
    rotate_right
    · exact tup_ne N hin (.tail _ (.head _)) (.inl (by simp)) (fun p hp => hxt p hp _ (by simp)) p hp
    all_goals (dsimp only [Cst.hp, Cst.mi, Cst.md, Cst.ci, Cst.cd, Tsk.ti, Tsk.di]; show @Ne Nat _ _; omega)
  have hpv := pv2 (t := t0) (W := W) (tkW0 := tW0) (fa := fa) (cdv := cdv) (x := x) (us := #[.int W tW1, u1, u2]) (nM := nM) X T K (by rw [et]; exact hTM)
  rw [et] at hpv
  refine binst20 (vs := none) (u0 := .none) (mrest := ML c es nH now tk3 cnt tkc t0 (OT c t1 t2 es rs)) (P := PI c es now tk3 cnt t0 (OT c t1 t2 es rs) (W)) X T F (Nat.le_succ_of_le J.len3) (fun r hr => List.mem_append_right [_, _, _, _, _, _, _, _, _, _, _] (tup_r hr)) dk (by omega) (by omega) (by omega) (by omega) NK hpv (fun mrest' D D1 D2 o1 o2 r tW' tturn' u' h' tk' hP hw hc hk F' N' lt ltq hrs' => ?_) B
  obtain ⟨q, es1, nH', tkc', tW, hqw, hqc, hqt, hes1, rfl⟩ := hP
  obtain ⟨J', hl2, hsub⟩ := jinst (k := 0) (W := W) (t := t0) (by decide) rfl b0 J I hqw hqc hqt hw hc hk (by omega) hes1
  have hrr : rrefs (rs.filter (fun r => r.k != 0) ++ [r]) = (((rs.filter fun r => r.k != 0).map fun (e : Row3) => Value.ref e.q) ++ [Value.ref r.q]).toArray := by simp [rrefs]
  rw [← hrr] at N'
  have S2 : Sit c L TL TM t0.T t0.d t1.T t1.d t2.T t2.d D now (cnt + 1) (psh es1 q) (rs.filter (fun r => r.k != 0) ++ [r]) ({ t0 with v := .int (W) tW, b := true }) t1 t2 (.int (W) tW') u1 u2 ocs ock := by
    refine ⟨ch', ⟨?_, ?_, ?_, ?_, ?_, ?_, ?_, ?_, ?_, ?_⟩, ⟨rfl, rfl⟩, ⟨rfl, rfl⟩, ⟨rfl, rfl⟩, by rw [stands_app, hk]; simp, by rw [stands_app, stands_del, if_neg (by decide), hk]; simp [b1], by rw [stands_app, stands_del, if_neg (by decide), hk]; simp [b2], .inr ⟨_, _, _, rfl, rfl, by omega⟩, v1, v2, ⟨_, ds⟩, ⟨_, dk⟩, pos, J', hxt⟩
    · exact Nat.ne_of_gt (lt (TM, _) (by k_mem))
    · exact Nat.ne_of_gt (lt (L + 1 + 1, _) (by k_mem))
    · exact Nat.ne_of_gt (lt (L + 1, _) (by k_mem))
    · exact Nat.ne_of_gt (lt (c.H, _) (by k_mem))
    · exact Nat.ne_of_gt (lt (c.dM, _) (by k_mem))
    · exact Nat.ne_of_gt (lt (c.C, _) (by k_mem))
    · exact Nat.ne_of_gt (lt (t0.d, _) (by k_mem))
    · exact Nat.ne_of_gt (lt (t1.d, _) (by k_mem))
    · exact Nat.ne_of_gt (lt (t2.d, _) (by k_mem))
    · exact fun p hp => Nat.ne_of_lt (lt p (List.mem_append_right [_, _, _, _, _, _, _, _, _, _, _, _, _, _, _, _, _, _, _, _] (tup_x hp)))
  have N2 := news_sub N' (l' := LD c L TL TM D (psh es1 q) nH' 0 nM now tk3 (cnt + 1) tkc' ({ t0 with v := .int (W) tW, b := true }) t1 t2 (.int (W) tW') u1 u2 ocs ock (rs.filter (fun r => r.k != 0) ++ [r])) (fun p hp => by
    simp only [LD, ML, OT, List.mem_cons] at hp ⊢
    rcases hp with h | h | h | h | h | h | h | h | h | h | h | h | h | h | h | h | hp
    rotate_right
    · rcases tup_cases hp with ⟨e, he, rfl⟩ | ⟨y, hy, rfl⟩ | hp
      · rcases List.mem_cons.mp ((psh_perm q hl2).mem_iff.mp he) with rfl | he
        · simp only [true_or, or_true]
        · have := tup_e (c := c) (rs := rs) (hsub e he)
          simp only [this, or_true]
      · rcases List.mem_append.mp hy with hy | hy
        · have := tup_r (c := c) (es := es) (List.mem_filter.mp hy).1
          simp only [this, or_true]
        · cases List.mem_singleton.mp hy
          simp only [true_or, or_true]
      · have := tup_x (c := c) (es := es) (rs := rs) hp
        simp only [this, or_true]
    all_goals simp only [h, true_or, or_true])
  exact fin18 X T S2 F' N2 (fun ocs' u'' h'' tk'' S3 F3 N3 => hQ _ _ _ _ _ _ ⟨_, _, _, _, _, _, _, _, _, _, _, _, _, _, _, _, _, S3, rfl, F3, N3⟩) B
theorem stp21 {w : World} {s s₀ : Shared} {h₀ : Heap} {L fa : Addr} {cdv : Value} {mg mb : Str → Option Value} {u : Str → Option Value} {Q : Flow → Shared → Prop} {E : Value → Shared → Prop}
  {c : Cst} {TL TM T0 d0 T1 d1 T2 d2 R : Addr} {now cnt x : Int} {es : List Ent} {rs : List Row3} {t0 t1 t2 : Tsk} {u0 u1 u2 : Value} {ocs ock : Obj} {nH nR nM : Nat} {tk3 tkc tknow tkturn tkx tkkd tkk : Tok}
  (X : (hd.heap_39 w.params).In h₀) (T : T18 s₀ mg mb h₀) (S : Sit c L TL TM T0 d0 T1 d1 T2 d2 R now cnt es rs t0 t1 t2 u0 u1 u2 ocs ock) (hx : 0 ≤ x ∧ x ≤ 1999)
  (F : Fr h₀ L s.heap (fun y => if y = Str.ofString "x" then some (.int x tkx) else if y = Str.ofString "kind" then some (.int 2 tkkd) else lawM c.M TL TM R now cnt tknow tkturn u y))
  (N : News h₀ L s.heap (LD c L TL TM R es nH nR nM now tk3 cnt tkc t0 t1 t2 u0 u1 u2 ocs ock rs))
  {W : Int} {tW0 tW1 : Tok}
  (hv : t1.v = .int W tW0) (hu : u1 = .int W tW1) (hW9 : W ≤ now + 1999)
  (dk : ock.data = .cell (some (.int 1 tkk)))
  (hQ : ∀ (cnt' : Int) (es' : List Ent) (rs' : List Row3) (h' : Heap) (m' : Str → Option Value) (tk' : Tok), Rep18 h₀ c L TL TM T0 d0 T1 d1 T2 d2 now cnt' es' rs' h' m' → Q .next { s with heap := h', toks := tk' })
  (B : Below callerA h₀ [] h₀) : wpAny (model Challenge.rw_fe0018_01.row.prog w) (callerA.deeper (lawEnv L fa cdv)) (exec loopIf (lawEnv L fa cdv)) (fun f s' => match f with | .next => wpAny (model Challenge.rw_fe0018_01.row.prog w) (callerA.deeper (lawEnv L fa cdv)) (execs (loopBody.drop 4) (lawEnv L fa cdv)) Q E s' | f => Q f s') E s := by
  obtain ⟨ch, rn, a0, a1, a2, b0, b1, b2, v0, v1, v2, ⟨vs, ds⟩, dk0, pos, J, hxt⟩ := S
  have I := ch.inj
  obtain ⟨a3, a4⟩ := a0; subst a3; subst a4
  obtain ⟨a3, a4⟩ := a1; subst a3; subst a4
  obtain ⟨a3, a4⟩ := a2; subst a3; subst a4
  have ch' := ch
  have rn' := rn
  obtain ⟨h1, h2, h3, h4, h5, h6, h7, h8, h9, h10, h11, h12, h13⟩ := ch
  obtain ⟨r1, r2, r3, r4, r5, r6, r7, r8, r9, r10⟩ := rn
  have hin : ∀ p ∈ tup c es rs, p ∈ LD c L TL TM R es nH nR nM now tk3 cnt tkc t0 t1 t2 u0 u1 u2 ocs ock rs := fun p hp => List.mem_append_right [_, _, _, _, _, _, _, _, _, _, _, _, _, _, _, _] hp
  have K : Ctx18 c es cnt t1 (OT c t0 t2 es rs) rs [R, TM, TL, L + 1 + 1, L + 1] := ctx18 (k := 1) (t := t1) (a := t0) (b := t2) (tkc := tkc) (nH := nH) (by decide) rfl b1 J I (fun y hy => by rcases hy with rfl | rfl | rfl <;> simp [tkf]) N ⟨by omega, by omega, by omega, by omega, by omega, by omega, by omega, by omega, by omega, by omega, by omega, by omega, by omega, by omega, by omega⟩ (fun y hy z hz => by
    simp only [List.mem_cons, List.not_mem_nil, or_false] at hy hz
    rcases hy with rfl | rfl | rfl | rfl | rfl <;> rcases hz with rfl | rfl | rfl <;> (show @Ne Nat _ _; omega)) (fun p hp => by
    simp only [OT, List.mem_cons] at hp
    rcases hp with rfl | rfl | rfl | rfl | hp
    rotate_right
    · exact .inl hp
    all_goals (refine .inr fun z hz => ?_; simp only [List.mem_cons, List.not_mem_nil, or_false] at hz; rcases hz with rfl | rfl | rfl <;> (dsimp only [Cst.hp, Cst.mi, Cst.md, Cst.ci, Cst.cd, Tsk.ti, Tsk.di]; show @Ne Nat _ _; omega))) (fun p hp => hp) hin (fun p hp z hz => hxt p hp z (by simp only [List.mem_cons, List.not_mem_nil, or_false] at hz ⊢; rcases hz with rfl | rfl | rfl <;> simp)) (by k_mem) (by k_mem) (by k_mem)
  subst hu
  have et : { t1 with v := .int W tW0 } = t1 := by rw [← hv]
  have NK : News h₀ L s.heap ((R, PySem.W.listOf (rrefs rs) nR) :: (TM, PySem.W.listOf #[u0, .int W tW1, u2] nM) :: (TL, PySem.W.listOf #[.ref t0.T, .ref t1.T, .ref t2.T] 0) :: (L + 1 + 1, ocs) :: (L + 1, ock) :: ML c es nH now tk3 cnt tkc t1 (OT c t0 t2 es rs)) := news_sub N fun p hp => by
    simp only [LD, ML, OT, List.mem_cons] at hp ⊢
    rcases hp with h | h | h | h | h | h | h | h | h | h | h | h | h | h | h | h | h <;> simp only [h, true_or, or_true]
  have hTM : OwnOff (ML c es nH now tk3 cnt tkc t1 (OT c t0 t2 es rs)) [TM] := fun p hp z hz => by
    cases List.mem_singleton.mp hz
    simp only [ML, OT, List.mem_cons] at hp
    rcases hp with rfl | rfl | rfl | rfl | rfl | rfl | rfl | rfl | rfl | rfl | rfl | hp
    rotate_right
    · exact tup_ne N hin (.tail _ (.head _)) (.inl (by simp)) (fun p hp => hxt p hp _ (by simp)) p hp
    all_goals (dsimp only [Cst.hp, Cst.mi, Cst.md, Cst.ci, Cst.cd, Tsk.ti, Tsk.di]; show @Ne Nat _ _; omega)
  have hpv := pv2 (t := t1) (W := W) (tkW0 := tW0) (fa := fa) (cdv := cdv) (x := x) (us := #[u0, .int W tW1, u2]) (nM := nM) X T K (by rw [et]; exact hTM)
  rw [et] at hpv
  refine binst21 (vs := none) (u1 := .none) (mrest := ML c es nH now tk3 cnt tkc t1 (OT c t0 t2 es rs)) (P := PI c es now tk3 cnt t1 (OT c t0 t2 es rs) (W)) X T F (Nat.le_succ_of_le J.len3) (fun r hr => List.mem_append_right [_, _, _, _, _, _, _, _, _, _, _] (tup_r hr)) dk (by omega) (by omega) (by omega) (by omega) NK hpv (fun mrest' D D1 D2 o1 o2 r tW' tturn' u' h' tk' hP hw hc hk F' N' lt ltq hrs' => ?_) B
  obtain ⟨q, es1, nH', tkc', tW, hqw, hqc, hqt, hes1, rfl⟩ := hP
  obtain ⟨J', hl2, hsub⟩ := jinst (k := 1) (W := W) (t := t1) (by decide) rfl b1 J I hqw hqc hqt hw hc hk (by omega) hes1
  have hrr : rrefs (rs.filter (fun r => r.k != 1) ++ [r]) = (((rs.filter fun r => r.k != 1).map fun (e : Row3) => Value.ref e.q) ++ [Value.ref r.q]).toArray := by simp [rrefs]
  rw [← hrr] at N'
  have S2 : Sit c L TL TM t0.T t0.d t1.T t1.d t2.T t2.d D now (cnt + 1) (psh es1 q) (rs.filter (fun r => r.k != 1) ++ [r]) t0 ({ t1 with v := .int (W) tW, b := true }) t2 u0 (.int (W) tW') u2 ocs ock := by
    refine ⟨ch', ⟨?_, ?_, ?_, ?_, ?_, ?_, ?_, ?_, ?_, ?_⟩, ⟨rfl, rfl⟩, ⟨rfl, rfl⟩, ⟨rfl, rfl⟩, by rw [stands_app, stands_del, if_neg (by decide), hk]; simp [b0], by rw [stands_app, hk]; simp, by rw [stands_app, stands_del, if_neg (by decide), hk]; simp [b2], v0, .inr ⟨_, _, _, rfl, rfl, by omega⟩, v2, ⟨_, ds⟩, ⟨_, dk⟩, pos, J', hxt⟩
    · exact Nat.ne_of_gt (lt (TM, _) (by k_mem))
    · exact Nat.ne_of_gt (lt (L + 1 + 1, _) (by k_mem))
    · exact Nat.ne_of_gt (lt (L + 1, _) (by k_mem))
    · exact Nat.ne_of_gt (lt (c.H, _) (by k_mem))
    · exact Nat.ne_of_gt (lt (c.dM, _) (by k_mem))
    · exact Nat.ne_of_gt (lt (c.C, _) (by k_mem))
    · exact Nat.ne_of_gt (lt (t0.d, _) (by k_mem))
    · exact Nat.ne_of_gt (lt (t1.d, _) (by k_mem))
    · exact Nat.ne_of_gt (lt (t2.d, _) (by k_mem))
    · exact fun p hp => Nat.ne_of_lt (lt p (List.mem_append_right [_, _, _, _, _, _, _, _, _, _, _, _, _, _, _, _, _, _, _, _] (tup_x hp)))
  have N2 := news_sub N' (l' := LD c L TL TM D (psh es1 q) nH' 0 nM now tk3 (cnt + 1) tkc' t0 ({ t1 with v := .int (W) tW, b := true }) t2 u0 (.int (W) tW') u2 ocs ock (rs.filter (fun r => r.k != 1) ++ [r])) (fun p hp => by
    simp only [LD, ML, OT, List.mem_cons] at hp ⊢
    rcases hp with h | h | h | h | h | h | h | h | h | h | h | h | h | h | h | h | hp
    rotate_right
    · rcases tup_cases hp with ⟨e, he, rfl⟩ | ⟨y, hy, rfl⟩ | hp
      · rcases List.mem_cons.mp ((psh_perm q hl2).mem_iff.mp he) with rfl | he
        · simp only [true_or, or_true]
        · have := tup_e (c := c) (rs := rs) (hsub e he)
          simp only [this, or_true]
      · rcases List.mem_append.mp hy with hy | hy
        · have := tup_r (c := c) (es := es) (List.mem_filter.mp hy).1
          simp only [this, or_true]
        · cases List.mem_singleton.mp hy
          simp only [true_or, or_true]
      · have := tup_x (c := c) (es := es) (rs := rs) hp
        simp only [this, or_true]
    all_goals simp only [h, true_or, or_true])
  exact fin18 X T S2 F' N2 (fun ocs' u'' h'' tk'' S3 F3 N3 => hQ _ _ _ _ _ _ ⟨_, _, _, _, _, _, _, _, _, _, _, _, _, _, _, _, _, S3, rfl, F3, N3⟩) B
theorem stp22 {w : World} {s s₀ : Shared} {h₀ : Heap} {L fa : Addr} {cdv : Value} {mg mb : Str → Option Value} {u : Str → Option Value} {Q : Flow → Shared → Prop} {E : Value → Shared → Prop}
  {c : Cst} {TL TM T0 d0 T1 d1 T2 d2 R : Addr} {now cnt x : Int} {es : List Ent} {rs : List Row3} {t0 t1 t2 : Tsk} {u0 u1 u2 : Value} {ocs ock : Obj} {nH nR nM : Nat} {tk3 tkc tknow tkturn tkx tkkd tkk : Tok}
  (X : (hd.heap_39 w.params).In h₀) (T : T18 s₀ mg mb h₀) (S : Sit c L TL TM T0 d0 T1 d1 T2 d2 R now cnt es rs t0 t1 t2 u0 u1 u2 ocs ock) (hx : 0 ≤ x ∧ x ≤ 1999)
  (F : Fr h₀ L s.heap (fun y => if y = Str.ofString "x" then some (.int x tkx) else if y = Str.ofString "kind" then some (.int 2 tkkd) else lawM c.M TL TM R now cnt tknow tkturn u y))
  (N : News h₀ L s.heap (LD c L TL TM R es nH nR nM now tk3 cnt tkc t0 t1 t2 u0 u1 u2 ocs ock rs))
  {W : Int} {tW0 tW1 : Tok}
  (hv : t2.v = .int W tW0) (hu : u2 = .int W tW1) (hW9 : W ≤ now + 1999)
  (dk : ock.data = .cell (some (.int 2 tkk)))
  (hQ : ∀ (cnt' : Int) (es' : List Ent) (rs' : List Row3) (h' : Heap) (m' : Str → Option Value) (tk' : Tok), Rep18 h₀ c L TL TM T0 d0 T1 d1 T2 d2 now cnt' es' rs' h' m' → Q .next { s with heap := h', toks := tk' })
  (B : Below callerA h₀ [] h₀) : wpAny (model Challenge.rw_fe0018_01.row.prog w) (callerA.deeper (lawEnv L fa cdv)) (exec loopIf (lawEnv L fa cdv)) (fun f s' => match f with | .next => wpAny (model Challenge.rw_fe0018_01.row.prog w) (callerA.deeper (lawEnv L fa cdv)) (execs (loopBody.drop 4) (lawEnv L fa cdv)) Q E s' | f => Q f s') E s := by
  obtain ⟨ch, rn, a0, a1, a2, b0, b1, b2, v0, v1, v2, ⟨vs, ds⟩, dk0, pos, J, hxt⟩ := S
  have I := ch.inj
  obtain ⟨a3, a4⟩ := a0; subst a3; subst a4
  obtain ⟨a3, a4⟩ := a1; subst a3; subst a4
  obtain ⟨a3, a4⟩ := a2; subst a3; subst a4
  have ch' := ch
  have rn' := rn
  obtain ⟨h1, h2, h3, h4, h5, h6, h7, h8, h9, h10, h11, h12, h13⟩ := ch
  obtain ⟨r1, r2, r3, r4, r5, r6, r7, r8, r9, r10⟩ := rn
  have hin : ∀ p ∈ tup c es rs, p ∈ LD c L TL TM R es nH nR nM now tk3 cnt tkc t0 t1 t2 u0 u1 u2 ocs ock rs := fun p hp => List.mem_append_right [_, _, _, _, _, _, _, _, _, _, _, _, _, _, _, _] hp
  have K : Ctx18 c es cnt t2 (OT c t0 t1 es rs) rs [R, TM, TL, L + 1 + 1, L + 1] := ctx18 (k := 2) (t := t2) (a := t0) (b := t1) (tkc := tkc) (nH := nH) (by decide) rfl b2 J I (fun y hy => by rcases hy with rfl | rfl | rfl <;> simp [tkf]) N ⟨by omega, by omega, by omega, by omega, by omega, by omega, by omega, by omega, by omega, by omega, by omega, by omega, by omega, by omega, by omega⟩ (fun y hy z hz => by
    simp only [List.mem_cons, List.not_mem_nil, or_false] at hy hz
    rcases hy with rfl | rfl | rfl | rfl | rfl <;> rcases hz with rfl | rfl | rfl <;> (show @Ne Nat _ _; omega)) (fun p hp => by
    simp only [OT, List.mem_cons] at hp
    rcases hp with rfl | rfl | rfl | rfl | hp
    rotate_right
    · exact .inl hp
    all_goals (refine .inr fun z hz => ?_; simp only [List.mem_cons, List.not_mem_nil, or_false] at hz; rcases hz with rfl | rfl | rfl <;> (dsimp only [Cst.hp, Cst.mi, Cst.md, Cst.ci, Cst.cd, Tsk.ti, Tsk.di]; show @Ne Nat _ _; omega))) (fun p hp => hp) hin (fun p hp z hz => hxt p hp z (by simp only [List.mem_cons, List.not_mem_nil, or_false] at hz ⊢; rcases hz with rfl | rfl | rfl <;> simp)) (by k_mem) (by k_mem) (by k_mem)
  subst hu
  have et : { t2 with v := .int W tW0 } = t2 := by rw [← hv]
  have NK : News h₀ L s.heap ((R, PySem.W.listOf (rrefs rs) nR) :: (TM, PySem.W.listOf #[u0, u1, .int W tW1] nM) :: (TL, PySem.W.listOf #[.ref t0.T, .ref t1.T, .ref t2.T] 0) :: (L + 1 + 1, ocs) :: (L + 1, ock) :: ML c es nH now tk3 cnt tkc t2 (OT c t0 t1 es rs)) := news_sub N fun p hp => by
    simp only [LD, ML, OT, List.mem_cons] at hp ⊢
    rcases hp with h | h | h | h | h | h | h | h | h | h | h | h | h | h | h | h | h <;> simp only [h, true_or, or_true]
  have hTM : OwnOff (ML c es nH now tk3 cnt tkc t2 (OT c t0 t1 es rs)) [TM] := fun p hp z hz => by
    cases List.mem_singleton.mp hz
    simp only [ML, OT, List.mem_cons] at hp
    rcases hp with rfl | rfl | rfl | rfl | rfl | rfl | rfl | rfl | rfl | rfl | rfl | hp
    rotate_right
    · exact tup_ne N hin (.tail _ (.head _)) (.inl (by simp)) (fun p hp => hxt p hp _ (by simp)) p hp
    all_goals (dsimp only [Cst.hp, Cst.mi, Cst.md, Cst.ci, Cst.cd, Tsk.ti, Tsk.di]; show @Ne Nat _ _; omega)
  have hpv := pv2 (t := t2) (W := W) (tkW0 := tW0) (fa := fa) (cdv := cdv) (x := x) (us := #[u0, u1, .int W tW1]) (nM := nM) X T K (by rw [et]; exact hTM)
  rw [et] at hpv
  refine binst22 (vs := none) (u2 := .none) (mrest := ML c es nH now tk3 cnt tkc t2 (OT c t0 t1 es rs)) (P := PI c es now tk3 cnt t2 (OT c t0 t1 es rs) (W)) X T F (Nat.le_succ_of_le J.len3) (fun r hr => List.mem_append_right [_, _, _, _, _, _, _, _, _, _, _] (tup_r hr)) dk (by omega) (by omega) (by omega) (by omega) NK hpv (fun mrest' D D1 D2 o1 o2 r tW' tturn' u' h' tk' hP hw hc hk F' N' lt ltq hrs' => ?_) B
  obtain ⟨q, es1, nH', tkc', tW, hqw, hqc, hqt, hes1, rfl⟩ := hP
  obtain ⟨J', hl2, hsub⟩ := jinst (k := 2) (W := W) (t := t2) (by decide) rfl b2 J I hqw hqc hqt hw hc hk (by omega) hes1
  have hrr : rrefs (rs.filter (fun r => r.k != 2) ++ [r]) = (((rs.filter fun r => r.k != 2).map fun (e : Row3) => Value.ref e.q) ++ [Value.ref r.q]).toArray := by simp [rrefs]
  rw [← hrr] at N'
  have S2 : Sit c L TL TM t0.T t0.d t1.T t1.d t2.T t2.d D now (cnt + 1) (psh es1 q) (rs.filter (fun r => r.k != 2) ++ [r]) t0 t1 ({ t2 with v := .int (W) tW, b := true }) u0 u1 (.int (W) tW') ocs ock := by
    refine ⟨ch', ⟨?_, ?_, ?_, ?_, ?_, ?_, ?_, ?_, ?_, ?_⟩, ⟨rfl, rfl⟩, ⟨rfl, rfl⟩, ⟨rfl, rfl⟩, by rw [stands_app, stands_del, if_neg (by decide), hk]; simp [b0], by rw [stands_app, stands_del, if_neg (by decide), hk]; simp [b1], by rw [stands_app, hk]; simp, v0, v1, .inr ⟨_, _, _, rfl, rfl, by omega⟩, ⟨_, ds⟩, ⟨_, dk⟩, pos, J', hxt⟩
    · exact Nat.ne_of_gt (lt (TM, _) (by k_mem))
    · exact Nat.ne_of_gt (lt (L + 1 + 1, _) (by k_mem))
    · exact Nat.ne_of_gt (lt (L + 1, _) (by k_mem))
    · exact Nat.ne_of_gt (lt (c.H, _) (by k_mem))
    · exact Nat.ne_of_gt (lt (c.dM, _) (by k_mem))
    · exact Nat.ne_of_gt (lt (c.C, _) (by k_mem))
    · exact Nat.ne_of_gt (lt (t0.d, _) (by k_mem))
    · exact Nat.ne_of_gt (lt (t1.d, _) (by k_mem))
    · exact Nat.ne_of_gt (lt (t2.d, _) (by k_mem))
    · exact fun p hp => Nat.ne_of_lt (lt p (List.mem_append_right [_, _, _, _, _, _, _, _, _, _, _, _, _, _, _, _, _, _, _, _] (tup_x hp)))
  have N2 := news_sub N' (l' := LD c L TL TM D (psh es1 q) nH' 0 nM now tk3 (cnt + 1) tkc' t0 t1 ({ t2 with v := .int (W) tW, b := true }) u0 u1 (.int (W) tW') ocs ock (rs.filter (fun r => r.k != 2) ++ [r])) (fun p hp => by
    simp only [LD, ML, OT, List.mem_cons] at hp ⊢
    rcases hp with h | h | h | h | h | h | h | h | h | h | h | h | h | h | h | h | hp
    rotate_right
    · rcases tup_cases hp with ⟨e, he, rfl⟩ | ⟨y, hy, rfl⟩ | hp
      · rcases List.mem_cons.mp ((psh_perm q hl2).mem_iff.mp he) with rfl | he
        · simp only [true_or, or_true]
        · have := tup_e (c := c) (rs := rs) (hsub e he)
          simp only [this, or_true]
      · rcases List.mem_append.mp hy with hy | hy
        · have := tup_r (c := c) (es := es) (List.mem_filter.mp hy).1
          simp only [this, or_true]
        · cases List.mem_singleton.mp hy
          simp only [true_or, or_true]
      · have := tup_x (c := c) (es := es) (rs := rs) hp
        simp only [this, or_true]
    all_goals simp only [h, true_or, or_true])
  exact fin18 X T S2 F' N2 (fun ocs' u'' h'' tk'' S3 F3 N3 => hQ _ _ _ _ _ _ ⟨_, _, _, _, _, _, _, _, _, _, _, _, _, _, _, _, _, S3, rfl, F3, N3⟩) B
end Mine
end

section
open PySem PySem.W PyProof.Rows PySem.Calls
set_option maxRecDepth 100000
set_option maxHeartbeats 4000000
namespace Mine
theorem stpN0 {w : World} {s s₀ : Shared} {h₀ : Heap} {L fa : Addr} {cdv : Value} {mg mb : Str → Option Value} {u : Str → Option Value} {Q : Flow → Shared → Prop} {E : Value → Shared → Prop}
  {c : Cst} {TL TM T0 d0 T1 d1 T2 d2 R : Addr} {now cnt x : Int} {es : List Ent} {rs : List Row3} {t0 t1 t2 : Tsk} {u0 u1 u2 : Value} {ocs ock : Obj} {nH nR nM : Nat} {tk3 tkc tknow tkturn tkx tkkd tkk : Tok}
  (X : (hd.heap_39 w.params).In h₀) (T : T18 s₀ mg mb h₀) (S : Sit c L TL TM T0 d0 T1 d1 T2 d2 R now cnt es rs t0 t1 t2 u0 u1 u2 ocs ock) (hx : 0 ≤ x ∧ x ≤ 1999)
  (F : Fr h₀ L s.heap (fun y => if y = Str.ofString "x" then some (.int x tkx) else if y = Str.ofString "kind" then some (.int 2 tkkd) else lawM c.M TL TM R now cnt tknow tkturn u y))
  (N : News h₀ L s.heap (LD c L TL TM R es nH nR nM now tk3 cnt tkc t0 t1 t2 u0 u1 u2 ocs ock rs))
  (hv : t0.v = .none) (hu : u0 = .none) (dk : ock.data = .cell (some (.int 0 tkk)))
  (hQ : ∀ (now' cnt' : Int) (es' : List Ent) (rs' : List Row3) (h' : Heap) (m' : Str → Option Value) (tk' : Tok), now' = now ∧ rs' = rs → Rep18 h₀ c L TL TM T0 d0 T1 d1 T2 d2 now' cnt' es' rs' h' m' → Q .next { s with heap := h', toks := tk' })
  (B : Below callerA h₀ [] h₀) : wpAny (model Challenge.rw_fe0018_01.row.prog w) (callerA.deeper (lawEnv L fa cdv)) (exec loopIf (lawEnv L fa cdv)) (fun f s' => match f with | .next => wpAny (model Challenge.rw_fe0018_01.row.prog w) (callerA.deeper (lawEnv L fa cdv)) (execs (loopBody.drop 4) (lawEnv L fa cdv)) Q E s' | f => Q f s') E s := by
  subst hu
  have S2 := S
  obtain ⟨ch, rn, a0, a1, a2, b0, b1, b2, v0, v1, v2, ⟨vs, ds⟩, dk0, pos, J, hxt⟩ := S
  have I := ch.inj
  obtain ⟨a3, a4⟩ := a0; subst a3; subst a4
  obtain ⟨a3, a4⟩ := a1; subst a3; subst a4
  obtain ⟨a3, a4⟩ := a2; subst a3; subst a4
  have ch' := ch
  have rn' := rn
  obtain ⟨h1, h2, h3, h4, h5, h6, h7, h8, h9, h10, h11, h12, h13⟩ := ch
  obtain ⟨r1, r2, r3, r4, r5, r6, r7, r8, r9, r10⟩ := rn
  have hin : ∀ p ∈ tup c es rs, p ∈ LD c L TL TM R es nH nR nM now tk3 cnt tkc t0 t1 t2 .none u1 u2 ocs ock rs := fun p hp => List.mem_append_right [_, _, _, _, _, _, _, _, _, _, _, _, _, _, _, _] hp
  have K : Ctx18 c es cnt t0 (OT c t1 t2 es rs) rs [R, TM, TL, L + 1 + 1, L + 1] := ctx18 (k := 0) (t := t0) (a := t1) (b := t2) (tkc := tkc) (nH := nH) (by decide) rfl b0 J I (fun y hy => by rcases hy with rfl | rfl | rfl <;> simp [tkf]) N ⟨by omega, by omega, by omega, by omega, by omega, by omega, by omega, by omega, by omega, by omega, by omega, by omega, by omega, by omega, by omega⟩ (fun y hy z hz => by
    simp only [List.mem_cons, List.not_mem_nil, or_false] at hy hz
    rcases hy with rfl | rfl | rfl | rfl | rfl <;> rcases hz with rfl | rfl | rfl <;> (show @Ne Nat _ _; omega)) (fun p hp => by
    simp only [OT, List.mem_cons] at hp
    rcases hp with rfl | rfl | rfl | rfl | hp
    rotate_right
    · exact .inl hp
    all_goals (refine .inr fun z hz => ?_; simp only [List.mem_cons, List.not_mem_nil, or_false] at hz; rcases hz with rfl | rfl | rfl <;> (dsimp only [Cst.hp, Cst.mi, Cst.md, Cst.ci, Cst.cd, Tsk.ti, Tsk.di]; show @Ne Nat _ _; omega))) (fun p hp => hp) hin (fun p hp z hz => hxt p hp z (by simp only [List.mem_cons, List.not_mem_nil, or_false] at hz ⊢; rcases hz with rfl | rfl | rfl <;> simp)) (by k_mem) (by k_mem) (by k_mem)
  have et : { t0 with v := .none } = t0 := by rw [← hv]
  have NK : News h₀ L s.heap ((R, PySem.W.listOf (rrefs rs) nR) :: (TM, PySem.W.listOf #[.none, u1, u2] nM) :: (TL, PySem.W.listOf #[.ref t0.T, .ref t1.T, .ref t2.T] 0) :: (L + 1 + 1, ocs) :: (L + 1, ock) :: ML c es nH now tk3 cnt tkc t0 (OT c t1 t2 es rs)) := news_sub N fun p hp => by
    simp only [LD, ML, OT, List.mem_cons] at hp ⊢
    rcases hp with h | h | h | h | h | h | h | h | h | h | h | h | h | h | h | h | h <;> simp only [h, true_or, or_true]
  have hpv := pvN (t := t0) (fa := fa) (cdv := cdv) (x := x) (nH := nH) (now := now) (tk3 := tk3) (tkc := tkc) X T K
  rw [et] at hpv
  refine bnone0 (u0 := .none) (P := fun _ => True) (mrest := ML c es nH now tk3 cnt tkc t0 (OT c t1 t2 es rs)) X T F dk NK hpv (fun u' h' tk' F' N' => ?_) B
  refine fin18 (nH := nH) (nR := nR) (nM := nM) (tk3 := tk3) (tkc := tkc) X T S2 F' (news_sub N' fun p hp => ?_) (fun ocs' u'' h'' tk'' S3 F3 N3 => hQ _ _ _ _ _ _ _ ⟨rfl, rfl⟩ ⟨_, _, _, _, _, _, _, _, _, _, _, _, _, _, _, _, _, S3, rfl, F3, N3⟩) B
  simp only [LD, ML, OT, List.mem_cons] at hp ⊢
  rcases hp with h | h | h | h | h | h | h | h | h | h | h | h | h | h | h | h | h <;> simp only [h, true_or, or_true]
theorem stpN1 {w : World} {s s₀ : Shared} {h₀ : Heap} {L fa : Addr} {cdv : Value} {mg mb : Str → Option Value} {u : Str → Option Value} {Q : Flow → Shared → Prop} {E : Value → Shared → Prop}
  {c : Cst} {TL TM T0 d0 T1 d1 T2 d2 R : Addr} {now cnt x : Int} {es : List Ent} {rs : List Row3} {t0 t1 t2 : Tsk} {u0 u1 u2 : Value} {ocs ock : Obj} {nH nR nM : Nat} {tk3 tkc tknow tkturn tkx tkkd tkk : Tok}
  (X : (hd.heap_39 w.params).In h₀) (T : T18 s₀ mg mb h₀) (S : Sit c L TL TM T0 d0 T1 d1 T2 d2 R now cnt es rs t0 t1 t2 u0 u1 u2 ocs ock) (hx : 0 ≤ x ∧ x ≤ 1999)
  (F : Fr h₀ L s.heap (fun y => if y = Str.ofString "x" then some (.int x tkx) else if y = Str.ofString "kind" then some (.int 2 tkkd) else lawM c.M TL TM R now cnt tknow tkturn u y))
  (N : News h₀ L s.heap (LD c L TL TM R es nH nR nM now tk3 cnt tkc t0 t1 t2 u0 u1 u2 ocs ock rs))
  (hv : t1.v = .none) (hu : u1 = .none) (dk : ock.data = .cell (some (.int 1 tkk)))
  (hQ : ∀ (now' cnt' : Int) (es' : List Ent) (rs' : List Row3) (h' : Heap) (m' : Str → Option Value) (tk' : Tok), now' = now ∧ rs' = rs → Rep18 h₀ c L TL TM T0 d0 T1 d1 T2 d2 now' cnt' es' rs' h' m' → Q .next { s with heap := h', toks := tk' })
  (B : Below callerA h₀ [] h₀) : wpAny (model Challenge.rw_fe0018_01.row.prog w) (callerA.deeper (lawEnv L fa cdv)) (exec loopIf (lawEnv L fa cdv)) (fun f s' => match f with | .next => wpAny (model Challenge.rw_fe0018_01.row.prog w) (callerA.deeper (lawEnv L fa cdv)) (execs (loopBody.drop 4) (lawEnv L fa cdv)) Q E s' | f => Q f s') E s := by
  subst hu
  have S2 := S
  obtain ⟨ch, rn, a0, a1, a2, b0, b1, b2, v0, v1, v2, ⟨vs, ds⟩, dk0, pos, J, hxt⟩ := S
  have I := ch.inj
  obtain ⟨a3, a4⟩ := a0; subst a3; subst a4
  obtain ⟨a3, a4⟩ := a1; subst a3; subst a4
  obtain ⟨a3, a4⟩ := a2; subst a3; subst a4
  have ch' := ch
  have rn' := rn
  obtain ⟨h1, h2, h3, h4, h5, h6, h7, h8, h9, h10, h11, h12, h13⟩ := ch
  obtain ⟨r1, r2, r3, r4, r5, r6, r7, r8, r9, r10⟩ := rn
  have hin : ∀ p ∈ tup c es rs, p ∈ LD c L TL TM R es nH nR nM now tk3 cnt tkc t0 t1 t2 u0 .none u2 ocs ock rs := fun p hp => List.mem_append_right [_, _, _, _, _, _, _, _, _, _, _, _, _, _, _, _] hp
  have K : Ctx18 c es cnt t1 (OT c t0 t2 es rs) rs [R, TM, TL, L + 1 + 1, L + 1] := ctx18 (k := 1) (t := t1) (a := t0) (b := t2) (tkc := tkc) (nH := nH) (by decide) rfl b1 J I (fun y hy => by rcases hy with rfl | rfl | rfl <;> simp [tkf]) N ⟨by omega, by omega, by omega, by omega, by omega, by omega, by omega, by omega, by omega, by omega, by omega, by omega, by omega, by omega, by omega⟩ (fun y hy z hz => by
    simp only [List.mem_cons, List.not_mem_nil, or_false] at hy hz
    rcases hy with rfl | rfl | rfl | rfl | rfl <;> rcases hz with rfl | rfl | rfl <;> (show @Ne Nat _ _; omega)) (fun p hp => by
    simp only [OT, List.mem_cons] at hp
    rcases hp with rfl | rfl | rfl | rfl | hp
    rotate_right
    · exact .inl hp
    all_goals (refine .inr fun z hz => ?_; simp only [List.mem_cons, List.not_mem_nil, or_false] at hz; rcases hz with rfl | rfl | rfl <;> (dsimp only [Cst.hp, Cst.mi, Cst.md, Cst.ci, Cst.cd, Tsk.ti, Tsk.di]; show @Ne Nat _ _; omega))) (fun p hp => hp) hin (fun p hp z hz => hxt p hp z (by simp only [List.mem_cons, List.not_mem_nil, or_false] at hz ⊢; rcases hz with rfl | rfl | rfl <;> simp)) (by k_mem) (by k_mem) (by k_mem)
  have et : { t1 with v := .none } = t1 := by rw [← hv]
  have NK : News h₀ L s.heap ((R, PySem.W.listOf (rrefs rs) nR) :: (TM, PySem.W.listOf #[u0, .none, u2] nM) :: (TL, PySem.W.listOf #[.ref t0.T, .ref t1.T, .ref t2.T] 0) :: (L + 1 + 1, ocs) :: (L + 1, ock) :: ML c es nH now tk3 cnt tkc t1 (OT c t0 t2 es rs)) := news_sub N fun p hp => by
    simp only [LD, ML, OT, List.mem_cons] at hp ⊢
    rcases hp with h | h | h | h | h | h | h | h | h | h | h | h | h | h | h | h | h <;> simp only [h, true_or, or_true]
  have hpv := pvN (t := t1) (fa := fa) (cdv := cdv) (x := x) (nH := nH) (now := now) (tk3 := tk3) (tkc := tkc) X T K
  rw [et] at hpv
  refine bnone1 (u1 := .none) (P := fun _ => True) (mrest := ML c es nH now tk3 cnt tkc t1 (OT c t0 t2 es rs)) X T F dk NK hpv (fun u' h' tk' F' N' => ?_) B
  refine fin18 (nH := nH) (nR := nR) (nM := nM) (tk3 := tk3) (tkc := tkc) X T S2 F' (news_sub N' fun p hp => ?_) (fun ocs' u'' h'' tk'' S3 F3 N3 => hQ _ _ _ _ _ _ _ ⟨rfl, rfl⟩ ⟨_, _, _, _, _, _, _, _, _, _, _, _, _, _, _, _, _, S3, rfl, F3, N3⟩) B
  simp only [LD, ML, OT, List.mem_cons] at hp ⊢
  rcases hp with h | h | h | h | h | h | h | h | h | h | h | h | h | h | h | h | h <;> simp only [h, true_or, or_true]
theorem stpN2 {w : World} {s s₀ : Shared} {h₀ : Heap} {L fa : Addr} {cdv : Value} {mg mb : Str → Option Value} {u : Str → Option Value} {Q : Flow → Shared → Prop} {E : Value → Shared → Prop}
  {c : Cst} {TL TM T0 d0 T1 d1 T2 d2 R : Addr} {now cnt x : Int} {es : List Ent} {rs : List Row3} {t0 t1 t2 : Tsk} {u0 u1 u2 : Value} {ocs ock : Obj} {nH nR nM : Nat} {tk3 tkc tknow tkturn tkx tkkd tkk : Tok}
  (X : (hd.heap_39 w.params).In h₀) (T : T18 s₀ mg mb h₀) (S : Sit c L TL TM T0 d0 T1 d1 T2 d2 R now cnt es rs t0 t1 t2 u0 u1 u2 ocs ock) (hx : 0 ≤ x ∧ x ≤ 1999)
  (F : Fr h₀ L s.heap (fun y => if y = Str.ofString "x" then some (.int x tkx) else if y = Str.ofString "kind" then some (.int 2 tkkd) else lawM c.M TL TM R now cnt tknow tkturn u y))
  (N : News h₀ L s.heap (LD c L TL TM R es nH nR nM now tk3 cnt tkc t0 t1 t2 u0 u1 u2 ocs ock rs))
  (hv : t2.v = .none) (hu : u2 = .none) (dk : ock.data = .cell (some (.int 2 tkk)))
  (hQ : ∀ (now' cnt' : Int) (es' : List Ent) (rs' : List Row3) (h' : Heap) (m' : Str → Option Value) (tk' : Tok), now' = now ∧ rs' = rs → Rep18 h₀ c L TL TM T0 d0 T1 d1 T2 d2 now' cnt' es' rs' h' m' → Q .next { s with heap := h', toks := tk' })
  (B : Below callerA h₀ [] h₀) : wpAny (model Challenge.rw_fe0018_01.row.prog w) (callerA.deeper (lawEnv L fa cdv)) (exec loopIf (lawEnv L fa cdv)) (fun f s' => match f with | .next => wpAny (model Challenge.rw_fe0018_01.row.prog w) (callerA.deeper (lawEnv L fa cdv)) (execs (loopBody.drop 4) (lawEnv L fa cdv)) Q E s' | f => Q f s') E s := by
  subst hu
  have S2 := S
  obtain ⟨ch, rn, a0, a1, a2, b0, b1, b2, v0, v1, v2, ⟨vs, ds⟩, dk0, pos, J, hxt⟩ := S
  have I := ch.inj
  obtain ⟨a3, a4⟩ := a0; subst a3; subst a4
  obtain ⟨a3, a4⟩ := a1; subst a3; subst a4
  obtain ⟨a3, a4⟩ := a2; subst a3; subst a4
  have ch' := ch
  have rn' := rn
  obtain ⟨h1, h2, h3, h4, h5, h6, h7, h8, h9, h10, h11, h12, h13⟩ := ch
  obtain ⟨r1, r2, r3, r4, r5, r6, r7, r8, r9, r10⟩ := rn
  have hin : ∀ p ∈ tup c es rs, p ∈ LD c L TL TM R es nH nR nM now tk3 cnt tkc t0 t1 t2 u0 u1 .none ocs ock rs := fun p hp => List.mem_append_right [_, _, _, _, _, _, _, _, _, _, _, _, _, _, _, _] hp
  have K : Ctx18 c es cnt t2 (OT c t0 t1 es rs) rs [R, TM, TL, L + 1 + 1, L + 1] := ctx18 (k := 2) (t := t2) (a := t0) (b := t1) (tkc := tkc) (nH := nH) (by decide) rfl b2 J I (fun y hy => by rcases hy with rfl | rfl | rfl <;> simp [tkf]) N ⟨by omega, by omega, by omega, by omega, by omega, by omega, by omega, by omega, by omega, by omega, by omega, by omega, by omega, by omega, by omega⟩ (fun y hy z hz => by
    simp only [List.mem_cons, List.not_mem_nil, or_false] at hy hz
    rcases hy with rfl | rfl | rfl | rfl | rfl <;> rcases hz with rfl | rfl | rfl <;> (show @Ne Nat _ _; omega)) (fun p hp => by
    simp only [OT, List.mem_cons] at hp
    rcases hp with rfl | rfl | rfl | rfl | hp
    rotate_right
    · exact .inl hp
    all_goals (refine .inr fun z hz => ?_; simp only [List.mem_cons, List.not_mem_nil, or_false] at hz; rcases hz with rfl | rfl | rfl <;> (dsimp only [Cst.hp, Cst.mi, Cst.md, Cst.ci, Cst.cd, Tsk.ti, Tsk.di]; show @Ne Nat _ _; omega))) (fun p hp => hp) hin (fun p hp z hz => hxt p hp z (by simp only [List.mem_cons, List.not_mem_nil, or_false] at hz ⊢; rcases hz with rfl | rfl | rfl <;> simp)) (by k_mem) (by k_mem) (by k_mem)
  have et : { t2 with v := .none } = t2 := by rw [← hv]
  have NK : News h₀ L s.heap ((R, PySem.W.listOf (rrefs rs) nR) :: (TM, PySem.W.listOf #[u0, u1, .none] nM) :: (TL, PySem.W.listOf #[.ref t0.T, .ref t1.T, .ref t2.T] 0) :: (L + 1 + 1, ocs) :: (L + 1, ock) :: ML c es nH now tk3 cnt tkc t2 (OT c t0 t1 es rs)) := news_sub N fun p hp => by
    simp only [LD, ML, OT, List.mem_cons] at hp ⊢
    rcases hp with h | h | h | h | h | h | h | h | h | h | h | h | h | h | h | h | h <;> simp only [h, true_or, or_true]
  have hpv := pvN (t := t2) (fa := fa) (cdv := cdv) (x := x) (nH := nH) (now := now) (tk3 := tk3) (tkc := tkc) X T K
  rw [et] at hpv
  refine bnone2 (u2 := .none) (P := fun _ => True) (mrest := ML c es nH now tk3 cnt tkc t2 (OT c t0 t1 es rs)) X T F dk NK hpv (fun u' h' tk' F' N' => ?_) B
  refine fin18 (nH := nH) (nR := nR) (nM := nM) (tk3 := tk3) (tkc := tkc) X T S2 F' (news_sub N' fun p hp => ?_) (fun ocs' u'' h'' tk'' S3 F3 N3 => hQ _ _ _ _ _ _ _ ⟨rfl, rfl⟩ ⟨_, _, _, _, _, _, _, _, _, _, _, _, _, _, _, _, _, S3, rfl, F3, N3⟩) B
  simp only [LD, ML, OT, List.mem_cons] at hp ⊢
  rcases hp with h | h | h | h | h | h | h | h | h | h | h | h | h | h | h | h | h <;> simp only [h, true_or, or_true]
end Mine
end

section
open PySem PySem.W PyProof.Rows PySem.Calls
set_option maxRecDepth 100000
set_option maxHeartbeats 4000000
namespace Mine
theorem jsusp {c : Cst} {es : List Ent} {now cnt : Int} {tk3 tkc : Tok} {t : Tsk} {oth m : List (Addr × Obj)} {T0 T1 T2 : Addr} {rs : List Row3} {k : Int} (hP : PS c es now tk3 cnt tkc t oth m) (hk : k = 0 ∨ k = 1 ∨ k = 2) (ht : t.T = tkf T0 T1 T2 k) (hb : t.b = stands rs k) (J : Jn (tkf T0 T1 T2) now cnt es rs) (I : Inj (tkf T0 T1 T2)) :
    ∃ es' nH', m = ML c es' nH' now tk3 cnt tkc { t with b := false } oth ∧ Jn (tkf T0 T1 T2) now cnt es' (rs.filter fun r => r.k != k) ∧ ∀ x ∈ es', x ∈ es := by
  rcases hP with ⟨nH, hno, rfl⟩ | ⟨nH, i, x, hx, hxt, rfl⟩
  · have hs : stands rs k = false := J.hasnt I hk fun e he => by rw [← ht]; exact hno e he
    have et : { t with b := false } = t := by rw [← hs, ← hb]
    refine ⟨es, nH, by rw [et], ?_, fun x hx => hx⟩
    rw [filter_none hs]; exact J
  · exact ⟨_, nH, rfl, J.drop I hk hx (hxt.trans ht), fun y hy => List.mem_of_mem_eraseIdx ((hpf_perm _).mem_iff.mp hy)⟩
theorem stpS0 {w : World} {s s₀ : Shared} {h₀ : Heap} {L fa : Addr} {cdv : Value} {mg mb : Str → Option Value} {u : Str → Option Value} {Q : Flow → Shared → Prop} {E : Value → Shared → Prop}
  {c : Cst} {TL TM T0 d0 T1 d1 T2 d2 R : Addr} {now cnt x : Int} {es : List Ent} {rs : List Row3} {t0 t1 t2 : Tsk} {u0 u1 u2 : Value} {ocs ock : Obj} {nH nR nM : Nat} {tk3 tkc tknow tkturn tkx tkkd tkk : Tok}
  (X : (hd.heap_39 w.params).In h₀) (T : T18 s₀ mg mb h₀) (S : Sit c L TL TM T0 d0 T1 d1 T2 d2 R now cnt es rs t0 t1 t2 u0 u1 u2 ocs ock) (hx : 0 ≤ x ∧ x ≤ 1999)
  (F : Fr h₀ L s.heap (fun y => if y = Str.ofString "x" then some (.int x tkx) else if y = Str.ofString "kind" then some (.int 3 tkkd) else lawM c.M TL TM R now cnt tknow tkturn u y))
  (N : News h₀ L s.heap (LD c L TL TM R es nH nR nM now tk3 cnt tkc t0 t1 t2 u0 u1 u2 ocs ock rs))
  (dk : ock.data = .cell (some (.int 0 tkk)))
  (hQ : ∀ (now' cnt' : Int) (es' : List Ent) (rs' : List Row3) (h' : Heap) (m' : Str → Option Value) (tk' : Tok), now' = now → Rep18 h₀ c L TL TM T0 d0 T1 d1 T2 d2 now' cnt' es' rs' h' m' → Q .next { s with heap := h', toks := tk' })
  (B : Below callerA h₀ [] h₀) : wpAny (model Challenge.rw_fe0018_01.row.prog w) (callerA.deeper (lawEnv L fa cdv)) (exec loopIf (lawEnv L fa cdv)) (fun f s' => match f with | .next => wpAny (model Challenge.rw_fe0018_01.row.prog w) (callerA.deeper (lawEnv L fa cdv)) (execs (loopBody.drop 4) (lawEnv L fa cdv)) Q E s' | f => Q f s') E s := by
  obtain ⟨ch, rn, a0, a1, a2, b0, b1, b2, v0, v1, v2, ⟨vs, ds⟩, dk0, pos, J, hxt⟩ := S
  have I := ch.inj
  obtain ⟨a3, a4⟩ := a0; subst a3; subst a4
  obtain ⟨a3, a4⟩ := a1; subst a3; subst a4
  obtain ⟨a3, a4⟩ := a2; subst a3; subst a4
  have ch' := ch
  have rn' := rn
  obtain ⟨h1, h2, h3, h4, h5, h6, h7, h8, h9, h10, h11, h12, h13⟩ := ch
  obtain ⟨r1, r2, r3, r4, r5, r6, r7, r8, r9, r10⟩ := rn
  have hin : ∀ p ∈ tup c es rs, p ∈ LD c L TL TM R es nH nR nM now tk3 cnt tkc t0 t1 t2 u0 u1 u2 ocs ock rs := fun p hp => List.mem_append_right [_, _, _, _, _, _, _, _, _, _, _, _, _, _, _, _] hp
  have K : Ctx18 c es cnt t0 (OT c t1 t2 es rs) rs [R, TM, TL, L + 1 + 1, L + 1] := ctx18 (k := 0) (t := t0) (a := t1) (b := t2) (tkc := tkc) (nH := nH) (by decide) rfl b0 J I (fun y hy => by rcases hy with rfl | rfl | rfl <;> simp [tkf]) N ⟨by omega, by omega, by omega, by omega, by omega, by omega, by omega, by omega, by omega, by omega, by omega, by omega, by omega, by omega, by omega⟩ (fun y hy z hz => by
    simp only [List.mem_cons, List.not_mem_nil, or_false] at hy hz
    rcases hy with rfl | rfl | rfl | rfl | rfl <;> rcases hz with rfl | rfl | rfl <;> (show @Ne Nat _ _; omega)) (fun p hp => by
    simp only [OT, List.mem_cons] at hp
    rcases hp with rfl | rfl | rfl | rfl | hp
    rotate_right
    · exact .inl hp
    all_goals (refine .inr fun z hz => ?_; simp only [List.mem_cons, List.not_mem_nil, or_false] at hz; rcases hz with rfl | rfl | rfl <;> (dsimp only [Cst.hp, Cst.mi, Cst.md, Cst.ci, Cst.cd, Tsk.ti, Tsk.di]; show @Ne Nat _ _; omega))) (fun p hp => hp) hin (fun p hp z hz => hxt p hp z (by simp only [List.mem_cons, List.not_mem_nil, or_false] at hz ⊢; rcases hz with rfl | rfl | rfl <;> simp)) (by k_mem) (by k_mem) (by k_mem)
  have NK : News h₀ L s.heap ((R, PySem.W.listOf (rrefs rs) nR) :: (TM, PySem.W.listOf #[u0, u1, u2] nM) :: (TL, PySem.W.listOf #[.ref t0.T, .ref t1.T, .ref t2.T] 0) :: (L + 1 + 1, ocs) :: (L + 1, ock) :: ML c es nH now tk3 cnt tkc t0 (OT c t1 t2 es rs)) := news_sub N fun p hp => by
    simp only [LD, ML, OT, List.mem_cons] at hp ⊢
    rcases hp with h | h | h | h | h | h | h | h | h | h | h | h | h | h | h | h | h <;> simp only [h, true_or, or_true]
  refine bsusp0 (x := x) (P := PS c es now tk3 cnt tkc t0 (OT c t1 t2 es rs)) (mrest := ML c es nH now tk3 cnt tkc t0 (OT c t1 t2 es rs)) (dT := t0.d) (oT := (t0.di c.M).2) X T F (Nat.le_succ_of_le J.len3) dk (by k_mem) (by k_mem) ⟨_, _, _, _, _, _, _, _, rfl⟩ NK (pvS X T K) (fun mrest' D u' h' tk' hP F' N' off hrs' => ?_) B
  obtain ⟨es', nH', rfl, J', hsub⟩ := jsusp hP (k := 0) (by decide) rfl b0 J I
  have S2 : Sit c L TL TM t0.T t0.d t1.T t1.d t2.T t2.d D now cnt es' (rs.filter fun r => r.k != 0) ({ t0 with b := false }) t1 t2 u0 u1 u2 ocs ock := by
    refine ⟨ch', ⟨?_, ?_, ?_, ?_, ?_, ?_, ?_, ?_, ?_, ?_⟩, ⟨rfl, rfl⟩, ⟨rfl, rfl⟩, ⟨rfl, rfl⟩, by rw [stands_del]; simp, by rw [stands_del, if_neg (by decide)]; exact b1, by rw [stands_del, if_neg (by decide)]; exact b2, v0, v1, v2, ⟨_, ds⟩, ⟨_, dk⟩, pos, J', hxt⟩
    · exact Ne.symm (off (TM, _) (by k_mem))
    · exact Ne.symm (off (L + 1 + 1, _) (by k_mem))
    · exact Ne.symm (off (L + 1, _) (by k_mem))
    · exact Ne.symm (off (c.H, _) (by k_mem))
    · exact Ne.symm (off (c.dM, _) (by k_mem))
    · exact Ne.symm (off (c.C, _) (by k_mem))
    · exact Ne.symm (off (t0.d, _) (by k_mem))
    · exact Ne.symm (off (t1.d, _) (by k_mem))
    · exact Ne.symm (off (t2.d, _) (by k_mem))
    · exact fun p hp => off p (List.mem_append_right [_, _, _, _, _, _, _, _, _, _, _, _, _, _, _, _] (tup_x hp))
  have N2 := news_sub N' (l' := LD c L TL TM D es' nH' (rs.filter fun r => r.k != 0).length nM now tk3 cnt tkc ({ t0 with b := false }) t1 t2 u0 u1 u2 ocs ock (rs.filter fun r => r.k != 0)) (fun p hp => by
    simp only [LD, ML, OT, List.mem_cons] at hp ⊢
    rcases hp with h | h | h | h | h | h | h | h | h | h | h | h | h | h | h | h | hp
    rotate_right
    · rcases tup_cases hp with ⟨e, he, rfl⟩ | ⟨y, hy, rfl⟩ | hp
      · have := tup_e (c := c) (rs := rs) (hsub e he)
        simp only [this, or_true]
      · have := tup_r (c := c) (es := es) ((List.mem_filter.mp hy).1)
        simp only [this, or_true]
      · have := tup_x (c := c) (es := es) (rs := rs) hp
        simp only [this, or_true]
    all_goals simp only [h, true_or, or_true])
  exact fin18 X T S2 F' N2 (fun ocs' u'' h'' tk'' S3 F3 N3 => hQ _ _ _ _ _ _ _ rfl ⟨_, _, _, _, _, _, _, _, _, _, _, _, _, _, _, _, _, S3, rfl, F3, N3⟩) B
theorem stpS1 {w : World} {s s₀ : Shared} {h₀ : Heap} {L fa : Addr} {cdv : Value} {mg mb : Str → Option Value} {u : Str → Option Value} {Q : Flow → Shared → Prop} {E : Value → Shared → Prop}
  {c : Cst} {TL TM T0 d0 T1 d1 T2 d2 R : Addr} {now cnt x : Int} {es : List Ent} {rs : List Row3} {t0 t1 t2 : Tsk} {u0 u1 u2 : Value} {ocs ock : Obj} {nH nR nM : Nat} {tk3 tkc tknow tkturn tkx tkkd tkk : Tok}
  (X : (hd.heap_39 w.params).In h₀) (T : T18 s₀ mg mb h₀) (S : Sit c L TL TM T0 d0 T1 d1 T2 d2 R now cnt es rs t0 t1 t2 u0 u1 u2 ocs ock) (hx : 0 ≤ x ∧ x ≤ 1999)
  (F : Fr h₀ L s.heap (fun y => if y = Str.ofString "x" then some (.int x tkx) else if y = Str.ofString "kind" then some (.int 3 tkkd) else lawM c.M TL TM R now cnt tknow tkturn u y))
  (N : News h₀ L s.heap (LD c L TL TM R es nH nR nM now tk3 cnt tkc t0 t1 t2 u0 u1 u2 ocs ock rs))
  (dk : ock.data = .cell (some (.int 1 tkk)))
  (hQ : ∀ (now' cnt' : Int) (es' : List Ent) (rs' : List Row3) (h' : Heap) (m' : Str → Option Value) (tk' : Tok), now' = now → Rep18 h₀ c L TL TM T0 d0 T1 d1 T2 d2 now' cnt' es' rs' h' m' → Q .next { s with heap := h', toks := tk' })
  (B : Below callerA h₀ [] h₀) : wpAny (model Challenge.rw_fe0018_01.row.prog w) (callerA.deeper (lawEnv L fa cdv)) (exec loopIf (lawEnv L fa cdv)) (fun f s' => match f with | .next => wpAny (model Challenge.rw_fe0018_01.row.prog w) (callerA.deeper (lawEnv L fa cdv)) (execs (loopBody.drop 4) (lawEnv L fa cdv)) Q E s' | f => Q f s') E s := by
  obtain ⟨ch, rn, a0, a1, a2, b0, b1, b2, v0, v1, v2, ⟨vs, ds⟩, dk0, pos, J, hxt⟩ := S
  have I := ch.inj
  obtain ⟨a3, a4⟩ := a0; subst a3; subst a4
  obtain ⟨a3, a4⟩ := a1; subst a3; subst a4
  obtain ⟨a3, a4⟩ := a2; subst a3; subst a4
  have ch' := ch
  have rn' := rn
  obtain ⟨h1, h2, h3, h4, h5, h6, h7, h8, h9, h10, h11, h12, h13⟩ := ch
  obtain ⟨r1, r2, r3, r4, r5, r6, r7, r8, r9, r10⟩ := rn
  have hin : ∀ p ∈ tup c es rs, p ∈ LD c L TL TM R es nH nR nM now tk3 cnt tkc t0 t1 t2 u0 u1 u2 ocs ock rs := fun p hp => List.mem_append_right [_, _, _, _, _, _, _, _, _, _, _, _, _, _, _, _] hp
  have K : Ctx18 c es cnt t1 (OT c t0 t2 es rs) rs [R, TM, TL, L + 1 + 1, L + 1] := ctx18 (k := 1) (t := t1) (a := t0) (b := t2) (tkc := tkc) (nH := nH) (by decide) rfl b1 J I (fun y hy => by rcases hy with rfl | rfl | rfl <;> simp [tkf]) N ⟨by omega, by omega, by omega, by omega, by omega, by omega, by omega, by omega, by omega, by omega, by omega, by omega, by omega, by omega, by omega⟩ (fun y hy z hz => by
    simp only [List.mem_cons, List.not_mem_nil, or_false] at hy hz
    rcases hy with rfl | rfl | rfl | rfl | rfl <;> rcases hz with rfl | rfl | rfl <;> (show @Ne Nat _ _; omega)) (fun p hp => by
    simp only [OT, List.mem_cons] at hp
    rcases hp with rfl | rfl | rfl | rfl | hp
    rotate_right
    · exact .inl hp
    all_goals (refine .inr fun z hz => ?_; simp only [List.mem_cons, List.not_mem_nil, or_false] at hz; rcases hz with rfl | rfl | rfl <;> (dsimp only [Cst.hp, Cst.mi, Cst.md, Cst.ci, Cst.cd, Tsk.ti, Tsk.di]; show @Ne Nat _ _; omega))) (fun p hp => hp) hin (fun p hp z hz => hxt p hp z (by simp only [List.mem_cons, List.not_mem_nil, or_false] at hz ⊢; rcases hz with rfl | rfl | rfl <;> simp)) (by k_mem) (by k_mem) (by k_mem)
  have NK : News h₀ L s.heap ((R, PySem.W.listOf (rrefs rs) nR) :: (TM, PySem.W.listOf #[u0, u1, u2] nM) :: (TL, PySem.W.listOf #[.ref t0.T, .ref t1.T, .ref t2.T] 0) :: (L + 1 + 1, ocs) :: (L + 1, ock) :: ML c es nH now tk3 cnt tkc t1 (OT c t0 t2 es rs)) := news_sub N fun p hp => by
    simp only [LD, ML, OT, List.mem_cons] at hp ⊢
    rcases hp with h | h | h | h | h | h | h | h | h | h | h | h | h | h | h | h | h <;> simp only [h, true_or, or_true]
  refine bsusp1 (x := x) (P := PS c es now tk3 cnt tkc t1 (OT c t0 t2 es rs)) (mrest := ML c es nH now tk3 cnt tkc t1 (OT c t0 t2 es rs)) (dT := t1.d) (oT := (t1.di c.M).2) X T F (Nat.le_succ_of_le J.len3) dk (by k_mem) (by k_mem) ⟨_, _, _, _, _, _, _, _, rfl⟩ NK (pvS X T K) (fun mrest' D u' h' tk' hP F' N' off hrs' => ?_) B
  obtain ⟨es', nH', rfl, J', hsub⟩ := jsusp hP (k := 1) (by decide) rfl b1 J I
  have S2 : Sit c L TL TM t0.T t0.d t1.T t1.d t2.T t2.d D now cnt es' (rs.filter fun r => r.k != 1) t0 ({ t1 with b := false }) t2 u0 u1 u2 ocs ock := by
    refine ⟨ch', ⟨?_, ?_, ?_, ?_, ?_, ?_, ?_, ?_, ?_, ?_⟩, ⟨rfl, rfl⟩, ⟨rfl, rfl⟩, ⟨rfl, rfl⟩, by rw [stands_del, if_neg (by decide)]; exact b0, by rw [stands_del]; simp, by rw [stands_del, if_neg (by decide)]; exact b2, v0, v1, v2, ⟨_, ds⟩, ⟨_, dk⟩, pos, J', hxt⟩
    · exact Ne.symm (off (TM, _) (by k_mem))
    · exact Ne.symm (off (L + 1 + 1, _) (by k_mem))
    · exact Ne.symm (off (L + 1, _) (by k_mem))
    · exact Ne.symm (off (c.H, _) (by k_mem))
    · exact Ne.symm (off (c.dM, _) (by k_mem))
    · exact Ne.symm (off (c.C, _) (by k_mem))
    · exact Ne.symm (off (t0.d, _) (by k_mem))
    · exact Ne.symm (off (t1.d, _) (by k_mem))
    · exact Ne.symm (off (t2.d, _) (by k_mem))
    · exact fun p hp => off p (List.mem_append_right [_, _, _, _, _, _, _, _, _, _, _, _, _, _, _, _] (tup_x hp))
  have N2 := news_sub N' (l' := LD c L TL TM D es' nH' (rs.filter fun r => r.k != 1).length nM now tk3 cnt tkc t0 ({ t1 with b := false }) t2 u0 u1 u2 ocs ock (rs.filter fun r => r.k != 1)) (fun p hp => by
    simp only [LD, ML, OT, List.mem_cons] at hp ⊢
    rcases hp with h | h | h | h | h | h | h | h | h | h | h | h | h | h | h | h | hp
    rotate_right
    · rcases tup_cases hp with ⟨e, he, rfl⟩ | ⟨y, hy, rfl⟩ | hp
      · have := tup_e (c := c) (rs := rs) (hsub e he)
        simp only [this, or_true]
      · have := tup_r (c := c) (es := es) ((List.mem_filter.mp hy).1)
        simp only [this, or_true]
      · have := tup_x (c := c) (es := es) (rs := rs) hp
        simp only [this, or_true]
    all_goals simp only [h, true_or, or_true])
  exact fin18 X T S2 F' N2 (fun ocs' u'' h'' tk'' S3 F3 N3 => hQ _ _ _ _ _ _ _ rfl ⟨_, _, _, _, _, _, _, _, _, _, _, _, _, _, _, _, _, S3, rfl, F3, N3⟩) B
theorem stpS2 {w : World} {s s₀ : Shared} {h₀ : Heap} {L fa : Addr} {cdv : Value} {mg mb : Str → Option Value} {u : Str → Option Value} {Q : Flow → Shared → Prop} {E : Value → Shared → Prop}
  {c : Cst} {TL TM T0 d0 T1 d1 T2 d2 R : Addr} {now cnt x : Int} {es : List Ent} {rs : List Row3} {t0 t1 t2 : Tsk} {u0 u1 u2 : Value} {ocs ock : Obj} {nH nR nM : Nat} {tk3 tkc tknow tkturn tkx tkkd tkk : Tok}
  (X : (hd.heap_39 w.params).In h₀) (T : T18 s₀ mg mb h₀) (S : Sit c L TL TM T0 d0 T1 d1 T2 d2 R now cnt es rs t0 t1 t2 u0 u1 u2 ocs ock) (hx : 0 ≤ x ∧ x ≤ 1999)
  (F : Fr h₀ L s.heap (fun y => if y = Str.ofString "x" then some (.int x tkx) else if y = Str.ofString "kind" then some (.int 3 tkkd) else lawM c.M TL TM R now cnt tknow tkturn u y))
  (N : News h₀ L s.heap (LD c L TL TM R es nH nR nM now tk3 cnt tkc t0 t1 t2 u0 u1 u2 ocs ock rs))
  (dk : ock.data = .cell (some (.int 2 tkk)))
  (hQ : ∀ (now' cnt' : Int) (es' : List Ent) (rs' : List Row3) (h' : Heap) (m' : Str → Option Value) (tk' : Tok), now' = now → Rep18 h₀ c L TL TM T0 d0 T1 d1 T2 d2 now' cnt' es' rs' h' m' → Q .next { s with heap := h', toks := tk' })
  (B : Below callerA h₀ [] h₀) : wpAny (model Challenge.rw_fe0018_01.row.prog w) (callerA.deeper (lawEnv L fa cdv)) (exec loopIf (lawEnv L fa cdv)) (fun f s' => match f with | .next => wpAny (model Challenge.rw_fe0018_01.row.prog w) (callerA.deeper (lawEnv L fa cdv)) (execs (loopBody.drop 4) (lawEnv L fa cdv)) Q E s' | f => Q f s') E s := by
  obtain ⟨ch, rn, a0, a1, a2, b0, b1, b2, v0, v1, v2, ⟨vs, ds⟩, dk0, pos, J, hxt⟩ := S
  have I := ch.inj
  obtain ⟨a3, a4⟩ := a0; subst a3; subst a4
  obtain ⟨a3, a4⟩ := a1; subst a3; subst a4
  obtain ⟨a3, a4⟩ := a2; subst a3; subst a4
  have ch' := ch
  have rn' := rn
  obtain ⟨h1, h2, h3, h4, h5, h6, h7, h8, h9, h10, h11, h12, h13⟩ := ch
  obtain ⟨r1, r2, r3, r4, r5, r6, r7, r8, r9, r10⟩ := rn
  have hin : ∀ p ∈ tup c es rs, p ∈ LD c L TL TM R es nH nR nM now tk3 cnt tkc t0 t1 t2 u0 u1 u2 ocs ock rs := fun p hp => List.mem_append_right [_, _, _, _, _, _, _, _, _, _, _, _, _, _, _, _] hp
  have K : Ctx18 c es cnt t2 (OT c t0 t1 es rs) rs [R, TM, TL, L + 1 + 1, L + 1] := ctx18 (k := 2) (t := t2) (a := t0) (b := t1) (tkc := tkc) (nH := nH) (by decide) rfl b2 J I (fun y hy => by rcases hy with rfl | rfl | rfl <;> simp [tkf]) N ⟨by omega, by omega, by omega, by omega, by omega, by omega, by omega, by omega, by omega, by omega, by omega, by omega, by omega, by omega, by omega⟩ (fun y hy z hz => by
    simp only [List.mem_cons, List.not_mem_nil, or_false] at hy hz
    rcases hy with rfl | rfl | rfl | rfl | rfl <;> rcases hz with rfl | rfl | rfl <;> (show @Ne Nat _ _; omega)) (fun p hp => by
    simp only [OT, List.mem_cons] at hp
    rcases hp with rfl | rfl | rfl | rfl | hp
    rotate_right
    · exact .inl hp
    all_goals (refine .inr fun z hz => ?_; simp only [List.mem_cons, List.not_mem_nil, or_false] at hz; rcases hz with rfl | rfl | rfl <;> (dsimp only [Cst.hp, Cst.mi, Cst.md, Cst.ci, Cst.cd, Tsk.ti, Tsk.di]; show @Ne Nat _ _; omega))) (fun p hp => hp) hin (fun p hp z hz => hxt p hp z (by simp only [List.mem_cons, List.not_mem_nil, or_false] at hz ⊢; rcases hz with rfl | rfl | rfl <;> simp)) (by k_mem) (by k_mem) (by k_mem)
  have NK : News h₀ L s.heap ((R, PySem.W.listOf (rrefs rs) nR) :: (TM, PySem.W.listOf #[u0, u1, u2] nM) :: (TL, PySem.W.listOf #[.ref t0.T, .ref t1.T, .ref t2.T] 0) :: (L + 1 + 1, ocs) :: (L + 1, ock) :: ML c es nH now tk3 cnt tkc t2 (OT c t0 t1 es rs)) := news_sub N fun p hp => by
    simp only [LD, ML, OT, List.mem_cons] at hp ⊢
    rcases hp with h | h | h | h | h | h | h | h | h | h | h | h | h | h | h | h | h <;> simp only [h, true_or, or_true]
  refine bsusp2 (x := x) (P := PS c es now tk3 cnt tkc t2 (OT c t0 t1 es rs)) (mrest := ML c es nH now tk3 cnt tkc t2 (OT c t0 t1 es rs)) (dT := t2.d) (oT := (t2.di c.M).2) X T F (Nat.le_succ_of_le J.len3) dk (by k_mem) (by k_mem) ⟨_, _, _, _, _, _, _, _, rfl⟩ NK (pvS X T K) (fun mrest' D u' h' tk' hP F' N' off hrs' => ?_) B
  obtain ⟨es', nH', rfl, J', hsub⟩ := jsusp hP (k := 2) (by decide) rfl b2 J I
  have S2 : Sit c L TL TM t0.T t0.d t1.T t1.d t2.T t2.d D now cnt es' (rs.filter fun r => r.k != 2) t0 t1 ({ t2 with b := false }) u0 u1 u2 ocs ock := by
    refine ⟨ch', ⟨?_, ?_, ?_, ?_, ?_, ?_, ?_, ?_, ?_, ?_⟩, ⟨rfl, rfl⟩, ⟨rfl, rfl⟩, ⟨rfl, rfl⟩, by rw [stands_del, if_neg (by decide)]; exact b0, by rw [stands_del, if_neg (by decide)]; exact b1, by rw [stands_del]; simp, v0, v1, v2, ⟨_, ds⟩, ⟨_, dk⟩, pos, J', hxt⟩
    · exact Ne.symm (off (TM, _) (by k_mem))
    · exact Ne.symm (off (L + 1 + 1, _) (by k_mem))
    · exact Ne.symm (off (L + 1, _) (by k_mem))
    · exact Ne.symm (off (c.H, _) (by k_mem))
    · exact Ne.symm (off (c.dM, _) (by k_mem))
    · exact Ne.symm (off (c.C, _) (by k_mem))
    · exact Ne.symm (off (t0.d, _) (by k_mem))
    · exact Ne.symm (off (t1.d, _) (by k_mem))
    · exact Ne.symm (off (t2.d, _) (by k_mem))
    · exact fun p hp => off p (List.mem_append_right [_, _, _, _, _, _, _, _, _, _, _, _, _, _, _, _] (tup_x hp))
  have N2 := news_sub N' (l' := LD c L TL TM D es' nH' (rs.filter fun r => r.k != 2).length nM now tk3 cnt tkc t0 t1 ({ t2 with b := false }) u0 u1 u2 ocs ock (rs.filter fun r => r.k != 2)) (fun p hp => by
    simp only [LD, ML, OT, List.mem_cons] at hp ⊢
    rcases hp with h | h | h | h | h | h | h | h | h | h | h | h | h | h | h | h | hp
    rotate_right
    · rcases tup_cases hp with ⟨e, he, rfl⟩ | ⟨y, hy, rfl⟩ | hp
      · have := tup_e (c := c) (rs := rs) (hsub e he)
        simp only [this, or_true]
      · have := tup_r (c := c) (es := es) ((List.mem_filter.mp hy).1)
        simp only [this, or_true]
      · have := tup_x (c := c) (es := es) (rs := rs) hp
        simp only [this, or_true]
    all_goals simp only [h, true_or, or_true])
  exact fin18 X T S2 F' N2 (fun ocs' u'' h'' tk'' S3 F3 N3 => hQ _ _ _ _ _ _ _ rfl ⟨_, _, _, _, _, _, _, _, _, _, _, _, _, _, _, _, _, S3, rfl, F3, N3⟩) B
end Mine
end

section
open PySem PySem.W PyProof.Rows PySem.Calls
set_option maxRecDepth 100000
set_option maxHeartbeats 4000000
namespace Mine
theorem stpP {w : World} {s s₀ : Shared} {h₀ : Heap} {L fa : Addr} {cdv : Value} {mg mb : Str → Option Value} {u : Str → Option Value} {Q : Flow → Shared → Prop} {E : Value → Shared → Prop}
  {c : Cst} {TL TM T0 d0 T1 d1 T2 d2 R : Addr} {now cnt x : Int} {es : List Ent} {rs : List Row3} {t0 t1 t2 : Tsk} {u0 u1 u2 : Value} {ocs ock : Obj} {nH nR nM : Nat} {tk3 tkc tknow tkturn tkx tkkd tkk : Tok}
  (X : (hd.heap_39 w.params).In h₀) (T : T18 s₀ mg mb h₀) (S : Sit c L TL TM T0 d0 T1 d1 T2 d2 R now cnt es rs t0 t1 t2 u0 u1 u2 ocs ock) (hx : 0 ≤ x ∧ x ≤ 1999)
  (F : Fr h₀ L s.heap (fun y => if y = Str.ofString "x" then some (.int x tkx) else if y = Str.ofString "kind" then some (.int 4 tkkd) else lawM c.M TL TM R now cnt tknow tkturn u y))
  (N : News h₀ L s.heap (LD c L TL TM R es nH nR nM now tk3 cnt tkc t0 t1 t2 u0 u1 u2 ocs ock rs))
  (hQ : ∀ (now' cnt' : Int) (es' : List Ent) (rs' : List Row3) (h' : Heap) (m' : Str → Option Value) (tk' : Tok), now' = now + x ∧ rs' = rs → Rep18 h₀ c L TL TM T0 d0 T1 d1 T2 d2 now' cnt' es' rs' h' m' → Q .next { s with heap := h', toks := tk' })
  (B : Below callerA h₀ [] h₀) : wpAny (model Challenge.rw_fe0018_01.row.prog w) (callerA.deeper (lawEnv L fa cdv)) (exec loopIf (lawEnv L fa cdv)) (fun f s' => match f with | .next => wpAny (model Challenge.rw_fe0018_01.row.prog w) (callerA.deeper (lawEnv L fa cdv)) (execs (loopBody.drop 4) (lawEnv L fa cdv)) Q E s' | f => Q f s') E s := by
  have S2 := S
  obtain ⟨ch, rn, a0, a1, a2, b0, b1, b2, v0, v1, v2, ⟨vs, ds⟩, dk0, pos, J, hxt⟩ := S
  have I := ch.inj
  obtain ⟨a3, a4⟩ := a0; subst a3; subst a4
  obtain ⟨a3, a4⟩ := a1; subst a3; subst a4
  obtain ⟨a3, a4⟩ := a2; subst a3; subst a4
  have ch' := ch
  have rn' := rn
  obtain ⟨h1, h2, h3, h4, h5, h6, h7, h8, h9, h10, h11, h12, h13⟩ := ch
  obtain ⟨r1, r2, r3, r4, r5, r6, r7, r8, r9, r10⟩ := rn
  obtain ⟨vk, dk⟩ := dk0
  have hin : ∀ p ∈ tup c es rs, p ∈ LD c L TL TM R es nH nR nM now tk3 cnt tkc t0 t1 t2 u0 u1 u2 ocs ock rs := fun p hp => List.mem_append_right [_, _, _, _, _, _, _, _, _, _, _, _, _, _, _, _] hp
  have NK : News h₀ L s.heap (c.mi :: c.md now tk3 :: (R, PySem.W.listOf (rrefs rs) nR) :: (TM, PySem.W.listOf #[u0, u1, u2] nM) :: (TL, PySem.W.listOf #[.ref t0.T, .ref t1.T, .ref t2.T] 0) :: (L + 1 + 1, ocs) :: (L + 1, ock) :: c.hp es nH :: t0.ti :: t0.di c.M :: c.ci cnt tkc :: c.cd :: OT c t1 t2 es rs) := news_sub N fun p hp => by
    simp only [LD, ML, OT, List.mem_cons] at hp ⊢
    rcases hp with h | h | h | h | h | h | h | h | h | h | h | h | h | h | h | h | h <;> simp only [h, true_or, or_true]
  refine bpass (rs := rs) (ock := ock) (ocs := ocs) (nR := nR) (nM := nM) (T0 := t0.T) (T1 := t1.T) (T2 := t2.T) (u0 := u0) (u1 := u1) (u2 := u2) (tkk := tkx) (P := fun _ => True) (mrest := (R, PySem.W.listOf (rrefs rs) nR) :: (TM, PySem.W.listOf #[u0, u1, u2] nM) :: (TL, PySem.W.listOf #[.ref t0.T, .ref t1.T, .ref t2.T] 0) :: (L + 1 + 1, ocs) :: (L + 1, ock) :: c.hp es nH :: t0.ti :: t0.di c.M :: c.ci cnt tkc :: c.cd :: OT c t1 t2 es rs) X T F (by omega) (fun p hp z hz => ?_) NK (fun ta tb u' h' tk' F' N' => ?_) B
  · cases List.mem_singleton.mp hz
    simp only [OT, List.mem_cons] at hp
    rcases hp with rfl | rfl | rfl | rfl | rfl | rfl | rfl | rfl | rfl | rfl | rfl | rfl | rfl | rfl | hp
    rotate_right
    · exact tup_ne N hin (b := c.dM) (by k_mem) (.inl (by simp)) (fun p hp => hxt p hp _ (by simp)) p hp
    all_goals (dsimp only [Cst.hp, Cst.mi, Cst.md, Cst.ci, Cst.cd, Tsk.ti, Tsk.di]; show @Ne Nat _ _; omega)
  · have S4 : Sit c L TL TM t0.T t0.d t1.T t1.d t2.T t2.d R (now + x) cnt es rs t0 t1 t2 u0 u1 u2 ocs ock := ⟨ch', rn', ⟨rfl, rfl⟩, ⟨rfl, rfl⟩, ⟨rfl, rfl⟩, b0, b1, b2, v0.mono (by omega), v1.mono (by omega), v2.mono (by omega), ⟨_, ds⟩, ⟨_, dk⟩, by omega, J.pass hx.1, hxt⟩
    refine fin18 (nH := nH) (nR := nR) (nM := nM) (tk3 := tb) (tkc := tkc) X T S4 F' (news_sub N' fun p hp => ?_) (fun ocs' u'' h'' tk'' S3 F3 N3 => hQ _ _ _ _ _ _ _ ⟨rfl, rfl⟩ ⟨_, _, _, _, _, _, _, _, _, _, _, _, _, _, _, _, _, S3, rfl, F3, N3⟩) B
    simp only [LD, ML, OT, List.mem_cons] at hp ⊢
    rcases hp with h | h | h | h | h | h | h | h | h | h | h | h | h | h | h | h | h <;> simp only [h, true_or, or_true]
end Mine
end

section
open PySem PySem.W PyProof.Rows PySem.Calls
set_option maxRecDepth 100000
set_option maxHeartbeats 4000000
namespace Mine
theorem stands_pop {d : Row3} {ds rs : List Row3} {j : Int} (hp : (d :: ds).Perm rs) (hn : (rs.map (·.k)).Nodup) : stands ds j = if j = d.k then false else stands rs j := by
  have hn' : ((d :: ds).map (·.k)).Nodup := (hp.map _).nodup_iff.mpr hn
  have hd := (List.nodup_cons.mp hn').1
  by_cases h : j = d.k
  · rw [if_pos h]
    cases hs : stands ds j with
    | false => rfl
    | true =>
      obtain ⟨r, hr, e⟩ := stands_iff.mp hs
      exact absurd (List.mem_map.mpr ⟨r, hr, e.trans h⟩) hd
  · rw [if_neg h]
    apply Bool.eq_iff_iff.mpr
    rw [stands_iff, stands_iff]
    constructor
    · rintro ⟨r, hr, e⟩; exact ⟨r, hp.mem_iff.mp (.tail _ hr), e⟩
    · rintro ⟨r, hr, e⟩
      rcases List.mem_cons.mp (hp.mem_iff.mpr hr) with rfl | h'
      · exact absurd e.symm h
      · exact ⟨r, h', e⟩
theorem sel_of {T0 T1 T2 Ts : Addr} {k : Int} (hk : k = 0 ∨ k = 1 ∨ k = 2) (h : tkf T0 T1 T2 k = Ts) : SelAt k T0 T1 T2 Ts := by
  subst h
  rcases hk with rfl | rfl | rfl
  · exact .inl ⟨rfl, rfl⟩
  · exact .inr (.inl ⟨rfl, rfl⟩)
  · exact .inr (.inr ⟨rfl, rfl⟩)
section
variable {T0 T1 T2 : Addr} {now cnt : Int} {e : Ent} {es : List Ent} {rs : List Row3}
theorem split_rows (J : Jn (tkf T0 T1 T2) now cnt (e :: es) rs) {ds : List Row3} (hp : ds.Perm rs) (hs : Srt ds) : ∃ d ds', ds = d :: ds' ∧ d.w = e.w ∧ tkf T0 T1 T2 d.k = e.t ∧ (d.k = 0 ∨ d.k = 1 ∨ d.k = 2) ∧ Jn (tkf T0 T1 T2) now cnt (ppp (e :: es)) ds' := by
  have J1 := J.order hp
  cases ds with
  | nil => have := J1.len; simp at this
  | cons d ds' =>
    obtain ⟨h1, h2, h3⟩ := J1.first hs
    exact ⟨d, ds', rfl, h1.symm, h3.symm, J1.kn d (.head _), J1.pop hs⟩
end
theorem stpGA {w : World} {s s₀ : Shared} {h₀ : Heap} {L fa : Addr} {cdv : Value} {mg mb : Str → Option Value} {u : Str → Option Value} {Q : Flow → Shared → Prop} {E : Value → Shared → Prop}
  {c : Cst} {TL TM T0 d0 T1 d1 T2 d2 R : Addr} {now cnt x : Int} {es : List Ent} {rs : List Row3} {t0 t1 t2 : Tsk} {u0 u1 u2 : Value} {ocs ock : Obj} {nH nR nM : Nat} {tk3 tkc tknow tkturn tkx tkkd tkk : Tok}
  (X : (hd.heap_39 w.params).In h₀) (T : T18 s₀ mg mb h₀) (S : Sit c L TL TM T0 d0 T1 d1 T2 d2 R now cnt es rs t0 t1 t2 u0 u1 u2 ocs ock) (hx : 0 ≤ x ∧ x ≤ 1999)
  (F : Fr h₀ L s.heap (fun y => if y = Str.ofString "x" then some (.int x tkx) else if y = Str.ofString "kind" then some (.int 5 tkkd) else lawM c.M TL TM R now cnt tknow tkturn u y))
  (N : News h₀ L s.heap (LD c L TL TM R es nH nR nM now tk3 cnt tkc t0 t1 t2 u0 u1 u2 ocs ock rs))
  (hes : es = []) (hz : rs = [])
  (hQ : ∀ (now' cnt' : Int) (es' : List Ent) (rs' : List Row3) (h' : Heap) (m' : Str → Option Value) (tk' : Tok), now' = now ∧ ((∀ r ∈ rs, r.w ≤ now) → rs'.length = rs.length - 1 ∧ ∀ r ∈ rs', r.w ≤ now) → Rep18 h₀ c L TL TM T0 d0 T1 d1 T2 d2 now' cnt' es' rs' h' m' → Q .next { s with heap := h', toks := tk' })
  (B : Below callerA h₀ [] h₀) : wpAny (model Challenge.rw_fe0018_01.row.prog w) (callerA.deeper (lawEnv L fa cdv)) (exec loopIf (lawEnv L fa cdv)) (fun f s' => match f with | .next => wpAny (model Challenge.rw_fe0018_01.row.prog w) (callerA.deeper (lawEnv L fa cdv)) (execs (loopBody.drop 4) (lawEnv L fa cdv)) Q E s' | f => Q f s') E s := by
  have S2 := S
  obtain ⟨ch, rn, a0, a1, a2, b0, b1, b2, v0, v1, v2, ⟨vs, ds⟩, dk0, pos, J, hxt⟩ := S
  have I := ch.inj
  obtain ⟨a3, a4⟩ := a0; subst a3; subst a4
  obtain ⟨a3, a4⟩ := a1; subst a3; subst a4
  obtain ⟨a3, a4⟩ := a2; subst a3; subst a4
  have ch' := ch
  have rn' := rn
  obtain ⟨h1, h2, h3, h4, h5, h6, h7, h8, h9, h10, h11, h12, h13⟩ := ch
  obtain ⟨r1, r2, r3, r4, r5, r6, r7, r8, r9, r10⟩ := rn
  have hrm : ∀ r ∈ rs, (r.q, r.obj) ∈ ML c es nH now tk3 cnt tkc t0 ((L + 1 + 1, ocs) :: (L + 1, ock) :: OT c t1 t2 es rs) := fun r hr => List.mem_append_right [_, _, _, _, _, _, _, _, _, _, _, _, _] (tup_r hr)
  have hMM : ∀ p ∈ c.mi :: c.md now tk3 :: [], p ∈ ML c es nH now tk3 cnt tkc t0 ((L + 1 + 1, ocs) :: (L + 1, ock) :: OT c t1 t2 es rs) := fun p hp => by
    simp only [List.mem_cons, List.not_mem_nil, or_false] at hp
    rcases hp with rfl | rfl <;> k_mem
  have NK : News h₀ L s.heap ((R, PySem.W.listOf (rrefs rs) nR) :: (TM, PySem.W.listOf #[u0, u1, u2] nM) :: (TL, PySem.W.listOf #[.ref t0.T, .ref t1.T, .ref t2.T] 0) :: ML c es nH now tk3 cnt tkc t0 ((L + 1 + 1, ocs) :: (L + 1, ock) :: OT c t1 t2 es rs)) := news_sub N fun p hp => by
    simp only [LD, ML, OT, List.mem_cons] at hp ⊢
    rcases hp with h | h | h | h | h | h | h | h | h | h | h | h | h | h | h | h | h <;> simp only [h, true_or, or_true]
  refine bnextA (P := fun m => m = ML c es nH now tk3 cnt tkc t0 ((L + 1 + 1, ocs) :: (L + 1, ock) :: OT c t1 t2 es rs)) (mrest := ML c es nH now tk3 cnt tkc t0 ((L + 1 + 1, ocs) :: (L + 1, ock) :: OT c t1 t2 es rs)) (W := 0) (Ts := TL) X T F hrm J.len3 J.rpw hMM NK (fun s' m' lead Q' E' hl B' F' N' h => pvA X T hes (fun r hr => List.mem_append_right [_, _, _, _, _, _] (tup_r hr)) s' m' lead Q' E' B' F' N' h) hz (fun mrest' u' h' tk' hP hrs' F' N' => ?_) B
  subst hP
  refine fin18 (nH := nH) (nR := nR) (nM := nM) (tk3 := tk3) (tkc := tkc) X T S2 F' (news_sub N' fun p hp => ?_) (fun ocs' u'' h'' tk'' S3 F3 N3 => hQ _ _ _ _ _ _ _ ⟨rfl, fun h => ⟨by rw [hz]; rfl, h⟩⟩ ⟨_, _, _, _, _, _, _, _, _, _, _, _, _, _, _, _, _, S3, rfl, F3, N3⟩) B
  simp only [LD, ML, OT, List.mem_cons] at hp ⊢
  rcases hp with h | h | h | h | h | h | h | h | h | h | h | h | h | h | h | h | h <;> simp only [h, true_or, or_true]
end Mine
end

section
open PySem PySem.W PyProof.Rows PySem.Calls
set_option maxRecDepth 100000
set_option maxHeartbeats 4000000
namespace Mine
theorem stpG0 {w : World} {s s₀ : Shared} {h₀ : Heap} {L fa : Addr} {cdv : Value} {mg mb : Str → Option Value} {u : Str → Option Value} {Q : Flow → Shared → Prop} {E : Value → Shared → Prop}
  {c : Cst} {TL TM T0 d0 T1 d1 T2 d2 R : Addr} {now cnt x : Int} {e : Ent} {es : List Ent} {rs : List Row3} {t0 t1 t2 : Tsk} {u0 u1 u2 : Value} {ocs ock : Obj} {nH nR nM : Nat} {tk3 tkc tknow tkturn tkx tkkd tkk : Tok}
  (X : (hd.heap_39 w.params).In h₀) (T : T18 s₀ mg mb h₀) (S : Sit c L TL TM T0 d0 T1 d1 T2 d2 R now cnt (e :: es) rs t0 t1 t2 u0 u1 u2 ocs ock) (hx : 0 ≤ x ∧ x ≤ 1999)
  (F : Fr h₀ L s.heap (fun y => if y = Str.ofString "x" then some (.int x tkx) else if y = Str.ofString "kind" then some (.int 5 tkkd) else lawM c.M TL TM R now cnt tknow tkturn u y))
  (N : News h₀ L s.heap (LD c L TL TM R (e :: es) nH nR nM now tk3 cnt tkc t0 t1 t2 u0 u1 u2 ocs ock rs))
  (het : e.t = t0.T)
  (hQ : ∀ (now' cnt' : Int) (es' : List Ent) (rs' : List Row3) (h' : Heap) (m' : Str → Option Value) (tk' : Tok), now' = now ∧ ((∀ r ∈ rs, r.w ≤ now) → rs'.length = rs.length - 1 ∧ ∀ r ∈ rs', r.w ≤ now) → Rep18 h₀ c L TL TM T0 d0 T1 d1 T2 d2 now' cnt' es' rs' h' m' → Q .next { s with heap := h', toks := tk' })
  (B : Below callerA h₀ [] h₀) : wpAny (model Challenge.rw_fe0018_01.row.prog w) (callerA.deeper (lawEnv L fa cdv)) (exec loopIf (lawEnv L fa cdv)) (fun f s' => match f with | .next => wpAny (model Challenge.rw_fe0018_01.row.prog w) (callerA.deeper (lawEnv L fa cdv)) (execs (loopBody.drop 4) (lawEnv L fa cdv)) Q E s' | f => Q f s') E s := by
  have S2 := S
  obtain ⟨ch, rn, a0, a1, a2, b0, b1, b2, v0, v1, v2, ⟨vs, ds1⟩, dk0, pos, J, hxt⟩ := S
  have I := ch.inj
  obtain ⟨a3, a4⟩ := a0; subst a3; subst a4
  obtain ⟨a3, a4⟩ := a1; subst a3; subst a4
  obtain ⟨a3, a4⟩ := a2; subst a3; subst a4
  have ch' := ch
  have rn' := rn
  obtain ⟨h1, h2, h3, h4, h5, h6, h7, h8, h9, h10, h11, h12, h13⟩ := ch
  obtain ⟨r1, r2, r3, r4, r5, r6, r7, r8, r9, r10⟩ := rn
  have hin : ∀ p ∈ tup c (e :: es) rs, p ∈ LD c L TL TM R (e :: es) nH nR nM now tk3 cnt tkc t0 t1 t2 u0 u1 u2 ocs ock rs := fun p hp => List.mem_append_right [_, _, _, _, _, _, _, _, _, _, _, _, _, _, _, _] hp
  have K : Ctx18 c (e :: es) cnt t0 ((L + 1 + 1, ocs) :: (L + 1, ock) :: OT c t1 t2 (e :: es) rs) rs [R, TM, TL] := ctx18 (k := 0) (t := t0) (a := t1) (b := t2) (tkc := tkc) (nH := nH) (by decide) rfl b0 J I (fun y hy => by rcases hy with rfl | rfl | rfl <;> simp [tkf]) N ⟨by omega, by omega, by omega, by omega, by omega, by omega, by omega, by omega, by omega, by omega, by omega, by omega, by omega, by omega, by omega⟩ (fun y hy z hz => by
    simp only [List.mem_cons, List.not_mem_nil, or_false] at hy hz
    rcases hy with rfl | rfl | rfl <;> rcases hz with rfl | rfl | rfl <;> (show @Ne Nat _ _; omega)) (fun p hp => by
    simp only [OT, List.mem_cons] at hp
    rcases hp with rfl | rfl | rfl | rfl | rfl | rfl | hp
    rotate_right
    · exact .inl hp
    all_goals (refine .inr fun z hz => ?_; simp only [List.mem_cons, List.not_mem_nil, or_false] at hz; rcases hz with rfl | rfl | rfl <;> (dsimp only [Cst.hp, Cst.mi, Cst.md, Cst.ci, Cst.cd, Tsk.ti, Tsk.di]; show @Ne Nat _ _; omega))) (fun p hp => .tail _ (.tail _ hp)) hin (fun p hp z hz => hxt p hp z (by simp only [List.mem_cons, List.not_mem_nil, or_false] at hz ⊢; rcases hz with rfl | rfl | rfl <;> simp)) (by k_mem) (by k_mem) (by k_mem)
  have hrm : ∀ r ∈ rs, (r.q, r.obj) ∈ ML c (e :: es) nH now tk3 cnt tkc t0 ((L + 1 + 1, ocs) :: (L + 1, ock) :: OT c t1 t2 (e :: es) rs) := fun r hr => List.mem_append_right [_, _, _, _, _, _, _, _, _, _, _, _, _] (tup_r (es := e :: es) hr)
  have hMM : ∀ p ∈ c.mi :: c.md now tk3 :: [], p ∈ ML c (e :: es) nH now tk3 cnt tkc t0 ((L + 1 + 1, ocs) :: (L + 1, ock) :: OT c t1 t2 (e :: es) rs) := fun p hp => by
    simp only [List.mem_cons, List.not_mem_nil, or_false] at hp
    rcases hp with rfl | rfl <;> k_mem
  have NK : News h₀ L s.heap ((R, PySem.W.listOf (rrefs rs) nR) :: (TM, PySem.W.listOf #[u0, u1, u2] nM) :: (TL, PySem.W.listOf #[.ref t0.T, .ref t1.T, .ref t2.T] 0) :: ML c (e :: es) nH now tk3 cnt tkc t0 ((L + 1 + 1, ocs) :: (L + 1, ock) :: OT c t1 t2 (e :: es) rs)) := news_sub N fun p hp => by
    simp only [LD, ML, OT, List.mem_cons] at hp ⊢
    rcases hp with h | h | h | h | h | h | h | h | h | h | h | h | h | h | h | h | h <;> simp only [h, true_or, or_true]
  have hl3 := J.len3
  have hlen := J.len
  have fin : ∀ (mrest' : List (Addr × Obj)) (D : Addr) (d : Row3) (ds : List Row3) (nD : Nat) (u' : Str → Option Value) (h' : Heap) (tk' : Tok), e.w ≤ now → mrest' = ML c (ppp (e :: es)) (nH + 1) now tk3 cnt tkc { t0 with b := false } ((L + 1 + 1, ocs) :: (L + 1, ock) :: OT c t1 t2 (e :: es) rs) → (d :: ds).Perm rs → Srt (d :: ds) → (∀ r ∈ rs, (r.q, r.obj) ∈ mrest') → Fr h₀ L h' (lawM c.M TL TM D now cnt tknow tkturn u') → News h₀ L h' ((D, PySem.W.listOf (rrefs ds) nD) :: (R, PySem.W.listOf (rrefs rs) nR) :: (TM, PySem.W.listOf #[u0, u1, u2] nM) :: (TL, PySem.W.listOf #[.ref t0.T, .ref t1.T, .ref t2.T] 0) :: mrest') → (∀ p ∈ (R, PySem.W.listOf (rrefs rs) nR) :: (TM, PySem.W.listOf #[u0, u1, u2] nM) :: (TL, PySem.W.listOf #[.ref t0.T, .ref t1.T, .ref t2.T] 0) :: mrest', p.1 < D) →
      wpAny (model Challenge.rw_fe0018_01.row.prog w) (callerA.deeper (lawEnv L fa cdv)) (execs (loopBody.drop 4) (lawEnv L fa cdv)) Q E { s with heap := h', toks := tk' } := by
    intro mrest' D d ds nD u' h' tk' hle hm hp hs hrs' F' N' lt
    subst hm
    obtain ⟨d9, ds9, e9, hdw, hdt, hdk3, J'⟩ := split_rows J hp hs
    cases e9
    have hdk : d.k = 0 := I.eq hdk3 (by decide) (by show tkf t0.T t1.T t2.T d.k = _; rw [hdt, het]; rfl)
    obtain ⟨vk, dk⟩ := dk0
    have h2 : es.length ≤ 2 := by simp only [List.length_cons] at hlen; omega
    have S4 : Sit c L TL TM t0.T t0.d t1.T t1.d t2.T t2.d D now cnt (ppp (e :: es)) ds ({ t0 with b := false }) t1 t2 u0 u1 u2 ocs ock := by
      refine ⟨ch', ⟨?_, ?_, ?_, ?_, ?_, ?_, ?_, ?_, ?_, ?_⟩, ⟨rfl, rfl⟩, ⟨rfl, rfl⟩, ⟨rfl, rfl⟩, by rw [stands_pop hp J.knd, hdk]; simp, by rw [stands_pop hp J.knd, hdk, if_neg (by decide)]; exact b1, by rw [stands_pop hp J.knd, hdk, if_neg (by decide)]; exact b2, v0, v1, v2, ⟨_, ds1⟩, ⟨_, dk⟩, pos, J', hxt⟩
      · exact Nat.ne_of_gt (lt (TM, _) (by k_mem))
      · exact Nat.ne_of_gt (lt (L + 1 + 1, _) (by k_mem))
      · exact Nat.ne_of_gt (lt (L + 1, _) (by k_mem))
      · exact Nat.ne_of_gt (lt (c.H, _) (by k_mem))
      · exact Nat.ne_of_gt (lt (c.dM, _) (by k_mem))
      · exact Nat.ne_of_gt (lt (c.C, _) (by k_mem))
      · exact Nat.ne_of_gt (lt (t0.d, _) (by k_mem))
      · exact Nat.ne_of_gt (lt (t1.d, _) (by k_mem))
      · exact Nat.ne_of_gt (lt (t2.d, _) (by k_mem))
      · exact fun p hp => Nat.ne_of_lt (lt p (List.mem_append_right [_, _, _, _, _, _, _, _, _, _, _, _, _, _, _, _] (tup_x (es := e :: es) (rs := rs) hp)))
    have N2 := news_sub N' (l' := LD c L TL TM D (ppp (e :: es)) (nH + 1) nD nM now tk3 cnt tkc ({ t0 with b := false }) t1 t2 u0 u1 u2 ocs ock ds) (fun p hp' => by
      simp only [LD, ML, OT, List.mem_cons] at hp' ⊢
      rcases hp' with h | h | h | h | h | h | h | h | h | h | h | h | h | h | h | h | hp'
      rotate_right
      · rcases tup_cases hp' with ⟨y, hy, rfl⟩ | ⟨y, hy, rfl⟩ | hp'
        · have := tup_e (c := c) (es := e :: es) (rs := rs) (.tail _ (ppp_mem h2 hy))
          simp only [this, or_true]
        · have := tup_r (c := c) (es := e :: es) (hp.mem_iff.mp (List.mem_cons_of_mem d hy))
          simp only [this, or_true]
        · have := tup_x (c := c) (es := e :: es) (rs := rs) hp'
          simp only [this, or_true]
      all_goals simp only [h, true_or, or_true])
    have hln : ds.length = rs.length - 1 := by have := hp.length_eq; simp only [List.length_cons] at this; omega
    exact fin18 X T S4 F' N2 (fun ocs' u'' h'' tk'' S3 F3 N3 => hQ _ _ _ _ _ _ _ ⟨rfl, fun h => ⟨hln, fun r hr => h r (hp.mem_iff.mp (.tail _ hr))⟩⟩ ⟨_, _, _, _, _, _, _, _, _, _, _, _, _, _, _, _, _, S3, rfl, F3, N3⟩) B
  by_cases hle : e.w ≤ now
  · cases hpp : ppp (e :: es) with
    | nil =>
      refine bnextC (P := fun m => m = ML c (ppp (e :: es)) (nH + 1) now tk3 cnt tkc { t0 with b := false } ((L + 1 + 1, ocs) :: (L + 1, ock) :: OT c t1 t2 (e :: es) rs)) (mrest := ML c (e :: es) nH now tk3 cnt tkc t0 ((L + 1 + 1, ocs) :: (L + 1, ock) :: OT c t1 t2 (e :: es) rs)) (W := 0) (Ts := t0.T) X T F hrm J.len3 J.rpw hMM NK (fun s' m' lead Q' E' hl B' F' N' h => pvG X T K het s' m' lead Q' E' hl B' F' N' (fun hlt => absurd hle (by omega)) (fun _ _ mrest' Dt h' tk' hm => h mrest' Dt h' tk' (by rw [hpp]; exact hm)) (fun _ e2 es2 hq => by rw [hpp] at hq; cases hq)) (fun ds hp hs => ?_) (fun mrest' D d ds nD u' h' tk' hP hp hs hrs' F' N' lt => fin mrest' D d ds nD u' h' tk' hle hP hp hs hrs' F' N' lt) B
      obtain ⟨d, ds', rfl, hdw, hdt, hdk3, J'⟩ := split_rows J hp hs
      rw [hpp] at J'
      obtain rfl : ds' = [] := List.length_eq_zero_iff.mp J'.len.symm
      exact ⟨d, rfl, by omega, sel_of hdk3 (hdt.trans het)⟩
    | cons e2 es2 =>
      have selD : ∀ ds : List Row3, ds.Perm rs → Srt ds → ∃ d d2 ds', ds = d :: d2 :: ds' ∧ d.w ≤ now ∧ d2.w = e2.w ∧ ds'.length = es2.length ∧ SelAt d.k t0.T t1.T t2.T t0.T := fun ds hp hs => by
        obtain ⟨d, ds', rfl, hdw, hdt, hdk3, J'⟩ := split_rows J hp hs
        rw [hpp] at J'
        obtain ⟨d2, ds2, rfl, hdw2, _, _, _⟩ := split_rows J' (.refl _) (List.pairwise_cons.mp hs).2
        have := J'.len
        exact ⟨d, d2, ds2, rfl, by omega, hdw2, by simpa using this.symm, sel_of hdk3 (hdt.trans het)⟩
      have hl1 : es2.length ≤ 1 := by
        have := ppp_len (e := e) (es := es) (by simp only [List.length_cons] at hlen; omega)
        rw [hpp] at this; simpa using this
      by_cases hlt : e2.w < now
      · have call : ∀ (s' : Shared) (m' : Str → Option Value) (lead : List (Addr × Obj)) (Q' : Value → Shared → Prop) (E' : Value → Shared → Prop), (∀ p ∈ lead, p.1 ∈ [R, TM, TL]) → Below callerA h₀ [] h₀ → Fr h₀ L s'.heap m' → News h₀ L s'.heap (lead ++ ML c (e :: es) nH now tk3 cnt tkc t0 ((L + 1 + 1, ocs) :: (L + 1, ock) :: OT c t1 t2 (e :: es) rs)) →
            (∀ (mrest' : List (Addr × Obj)) (Dt : Addr) (h' : Heap) (tk' : Tok) (tv : Tok), mrest' = ML c (ppp (e :: es)) (nH + 1) now tk3 cnt tkc { t0 with b := false } ((L + 1 + 1, ocs) :: (L + 1, ock) :: OT c t1 t2 (e :: es) rs) → (∀ r ∈ rs, (r.q, r.obj) ∈ mrest') → Fr h₀ L h' m' → News h₀ L h' ((Dt, { cls := .type "tuple", data := .seq #[.ref t0.T, .float 0 tv] }) :: (lead ++ mrest')) → Q' (.ref Dt) { s' with heap := h', toks := tk' }) →
            wpAny (model Challenge.rw_fe0018_01.row.prog w) (callerA.deeper (lawEnv L fa cdv)) (call (.ref 234) [.ref c.M]) Q' E' s' := fun s' m' lead Q' E' hl B' F' N' h =>
          pvG X T K het s' m' lead Q' E' hl B' F' N' (fun hlt => absurd hle (by omega)) (fun _ hq => by rw [hpp] at hq; cases hq) (fun _ e3 es3 hq mrest' Dt h' tk' v tv hv hm hr hF hN => by
            rw [hpp] at hq; cases hq
            rcases hv with ⟨rfl, _⟩ | ⟨_, hv⟩
            · exact h mrest' Dt h' tk' tv (by rw [hpp]; exact hm) hr hF hN
            · omega)
        rcases Nat.le_one_iff_eq_zero_or_eq_one.mp hl1 with hz | hz
        · rw [hz] at selD
          exact bnextDF2 (P := fun m => m = ML c (ppp (e :: es)) (nH + 1) now tk3 cnt tkc { t0 with b := false } ((L + 1 + 1, ocs) :: (L + 1, ock) :: OT c t1 t2 (e :: es) rs)) (mrest := ML c (e :: es) nH now tk3 cnt tkc t0 ((L + 1 + 1, ocs) :: (L + 1, ock) :: OT c t1 t2 (e :: es) rs)) (W := e2.w) (Ts := t0.T) X T F hrm J.len3 J.rpw hMM NK call hlt selD (fun mrest' D d ds nD u' h' tk' hP hp hs hrs' F' N' lt => fin mrest' D d ds nD u' h' tk' hle hP hp hs hrs' F' N' lt) B
        · rw [hz] at selD
          exact bnextDF3 (P := fun m => m = ML c (ppp (e :: es)) (nH + 1) now tk3 cnt tkc { t0 with b := false } ((L + 1 + 1, ocs) :: (L + 1, ock) :: OT c t1 t2 (e :: es) rs)) (mrest := ML c (e :: es) nH now tk3 cnt tkc t0 ((L + 1 + 1, ocs) :: (L + 1, ock) :: OT c t1 t2 (e :: es) rs)) (W := e2.w) (Ts := t0.T) X T F hrm J.len3 J.rpw hMM NK call hlt selD (fun mrest' D d ds nD u' h' tk' hP hp hs hrs' F' N' lt => fin mrest' D d ds nD u' h' tk' hle hP hp hs hrs' F' N' lt) B
      · have call : ∀ (s' : Shared) (m' : Str → Option Value) (lead : List (Addr × Obj)) (Q' : Value → Shared → Prop) (E' : Value → Shared → Prop), (∀ p ∈ lead, p.1 ∈ [R, TM, TL]) → Below callerA h₀ [] h₀ → Fr h₀ L s'.heap m' → News h₀ L s'.heap (lead ++ ML c (e :: es) nH now tk3 cnt tkc t0 ((L + 1 + 1, ocs) :: (L + 1, ock) :: OT c t1 t2 (e :: es) rs)) →
            (∀ (mrest' : List (Addr × Obj)) (Dt : Addr) (h' : Heap) (tk' : Tok) (tv : Tok), mrest' = ML c (ppp (e :: es)) (nH + 1) now tk3 cnt tkc { t0 with b := false } ((L + 1 + 1, ocs) :: (L + 1, ock) :: OT c t1 t2 (e :: es) rs) → (∀ r ∈ rs, (r.q, r.obj) ∈ mrest') → Fr h₀ L h' m' → News h₀ L h' ((Dt, { cls := .type "tuple", data := .seq #[.ref t0.T, .int (e2.w - now) tv] }) :: (lead ++ mrest')) → Q' (.ref Dt) { s' with heap := h', toks := tk' }) →
            wpAny (model Challenge.rw_fe0018_01.row.prog w) (callerA.deeper (lawEnv L fa cdv)) (call (.ref 234) [.ref c.M]) Q' E' s' := fun s' m' lead Q' E' hl B' F' N' h =>
          pvG X T K het s' m' lead Q' E' hl B' F' N' (fun hlt => absurd hle (by omega)) (fun _ hq => by rw [hpp] at hq; cases hq) (fun _ e3 es3 hq mrest' Dt h' tk' v tv hv hm hr hF hN => by
            rw [hpp] at hq; cases hq
            rcases hv with ⟨_, hv⟩ | ⟨rfl, _⟩
            · omega
            · exact h mrest' Dt h' tk' tv (by rw [hpp]; exact hm) hr hF hN)
        rcases Nat.le_one_iff_eq_zero_or_eq_one.mp hl1 with hz | hz
        · rw [hz] at selD
          exact bnextDI2 (P := fun m => m = ML c (ppp (e :: es)) (nH + 1) now tk3 cnt tkc { t0 with b := false } ((L + 1 + 1, ocs) :: (L + 1, ock) :: OT c t1 t2 (e :: es) rs)) (mrest := ML c (e :: es) nH now tk3 cnt tkc t0 ((L + 1 + 1, ocs) :: (L + 1, ock) :: OT c t1 t2 (e :: es) rs)) (W := e2.w) (Ts := t0.T) X T F hrm J.len3 J.rpw hMM NK call (by omega) selD (fun mrest' D d ds nD u' h' tk' hP hp hs hrs' F' N' lt => fin mrest' D d ds nD u' h' tk' hle hP hp hs hrs' F' N' lt) B
        · rw [hz] at selD
          exact bnextDI3 (P := fun m => m = ML c (ppp (e :: es)) (nH + 1) now tk3 cnt tkc { t0 with b := false } ((L + 1 + 1, ocs) :: (L + 1, ock) :: OT c t1 t2 (e :: es) rs)) (mrest := ML c (e :: es) nH now tk3 cnt tkc t0 ((L + 1 + 1, ocs) :: (L + 1, ock) :: OT c t1 t2 (e :: es) rs)) (W := e2.w) (Ts := t0.T) X T F hrm J.len3 J.rpw hMM NK call (by omega) selD (fun mrest' D d ds nD u' h' tk' hP hp hs hrs' F' N' lt => fin mrest' D d ds nD u' h' tk' hle hP hp hs hrs' F' N' lt) B
  · refine bnextB (P := fun m => m = ML c (e :: es) nH now tk3 cnt tkc t0 ((L + 1 + 1, ocs) :: (L + 1, ock) :: OT c t1 t2 (e :: es) rs)) (mrest := ML c (e :: es) nH now tk3 cnt tkc t0 ((L + 1 + 1, ocs) :: (L + 1, ock) :: OT c t1 t2 (e :: es) rs)) (W := e.w) (Ts := TL) X T F hrm J.len3 J.rpw hMM NK (fun s' m' lead Q' E' hl B' F' N' h => pvG X T K het s' m' lead Q' E' hl B' F' N' (fun _ mrest' Dt h' tk' tv hm => h mrest' Dt h' tk' tv hm) (fun hq => absurd hq hle) (fun hq => absurd hq hle)) (by omega) (fun ds hp hs => ?_) (fun mrest' u' h' tk' hP hrs' F' N' => ?_) B
    · obtain ⟨d, ds', rfl, hdw, _, _, _⟩ := split_rows J hp hs
      exact ⟨d, ds', rfl, hdw⟩
    · subst hP
      obtain ⟨r9, hr9, hw9, _, _⟩ := J.ent (.head _ : e ∈ e :: es)
      refine fin18 (nH := nH) (nR := nR) (nM := nM) (tk3 := tk3) (tkc := tkc) X T S2 F' (news_sub N' fun p hp => ?_) (fun ocs' u'' h'' tk'' S3 F3 N3 => hQ _ _ _ _ _ _ _ ⟨rfl, fun h => absurd (h r9 hr9) (by omega)⟩ ⟨_, _, _, _, _, _, _, _, _, _, _, _, _, _, _, _, _, S3, rfl, F3, N3⟩) B
      simp only [LD, ML, OT, List.mem_cons] at hp ⊢
      rcases hp with h | h | h | h | h | h | h | h | h | h | h | h | h | h | h | h | h <;> simp only [h, true_or, or_true]
theorem stpG1 {w : World} {s s₀ : Shared} {h₀ : Heap} {L fa : Addr} {cdv : Value} {mg mb : Str → Option Value} {u : Str → Option Value} {Q : Flow → Shared → Prop} {E : Value → Shared → Prop}
  {c : Cst} {TL TM T0 d0 T1 d1 T2 d2 R : Addr} {now cnt x : Int} {e : Ent} {es : List Ent} {rs : List Row3} {t0 t1 t2 : Tsk} {u0 u1 u2 : Value} {ocs ock : Obj} {nH nR nM : Nat} {tk3 tkc tknow tkturn tkx tkkd tkk : Tok}
  (X : (hd.heap_39 w.params).In h₀) (T : T18 s₀ mg mb h₀) (S : Sit c L TL TM T0 d0 T1 d1 T2 d2 R now cnt (e :: es) rs t0 t1 t2 u0 u1 u2 ocs ock) (hx : 0 ≤ x ∧ x ≤ 1999)
  (F : Fr h₀ L s.heap (fun y => if y = Str.ofString "x" then some (.int x tkx) else if y = Str.ofString "kind" then some (.int 5 tkkd) else lawM c.M TL TM R now cnt tknow tkturn u y))
  (N : News h₀ L s.heap (LD c L TL TM R (e :: es) nH nR nM now tk3 cnt tkc t0 t1 t2 u0 u1 u2 ocs ock rs))
  (het : e.t = t1.T)
  (hQ : ∀ (now' cnt' : Int) (es' : List Ent) (rs' : List Row3) (h' : Heap) (m' : Str → Option Value) (tk' : Tok), now' = now ∧ ((∀ r ∈ rs, r.w ≤ now) → rs'.length = rs.length - 1 ∧ ∀ r ∈ rs', r.w ≤ now) → Rep18 h₀ c L TL TM T0 d0 T1 d1 T2 d2 now' cnt' es' rs' h' m' → Q .next { s with heap := h', toks := tk' })
  (B : Below callerA h₀ [] h₀) : wpAny (model Challenge.rw_fe0018_01.row.prog w) (callerA.deeper (lawEnv L fa cdv)) (exec loopIf (lawEnv L fa cdv)) (fun f s' => match f with | .next => wpAny (model Challenge.rw_fe0018_01.row.prog w) (callerA.deeper (lawEnv L fa cdv)) (execs (loopBody.drop 4) (lawEnv L fa cdv)) Q E s' | f => Q f s') E s := by
  have S2 := S
  obtain ⟨ch, rn, a0, a1, a2, b0, b1, b2, v0, v1, v2, ⟨vs, ds1⟩, dk0, pos, J, hxt⟩ := S
  have I := ch.inj
  obtain ⟨a3, a4⟩ := a0; subst a3; subst a4
  obtain ⟨a3, a4⟩ := a1; subst a3; subst a4
  obtain ⟨a3, a4⟩ := a2; subst a3; subst a4
  have ch' := ch
  have rn' := rn
  obtain ⟨h1, h2, h3, h4, h5, h6, h7, h8, h9, h10, h11, h12, h13⟩ := ch
  obtain ⟨r1, r2, r3, r4, r5, r6, r7, r8, r9, r10⟩ := rn
  have hin : ∀ p ∈ tup c (e :: es) rs, p ∈ LD c L TL TM R (e :: es) nH nR nM now tk3 cnt tkc t0 t1 t2 u0 u1 u2 ocs ock rs := fun p hp => List.mem_append_right [_, _, _, _, _, _, _, _, _, _, _, _, _, _, _, _] hp
  have K : Ctx18 c (e :: es) cnt t1 ((L + 1 + 1, ocs) :: (L + 1, ock) :: OT c t0 t2 (e :: es) rs) rs [R, TM, TL] := ctx18 (k := 1) (t := t1) (a := t0) (b := t2) (tkc := tkc) (nH := nH) (by decide) rfl b1 J I (fun y hy => by rcases hy with rfl | rfl | rfl <;> simp [tkf]) N ⟨by omega, by omega, by omega, by omega, by omega, by omega, by omega, by omega, by omega, by omega, by omega, by omega, by omega, by omega, by omega⟩ (fun y hy z hz => by
    simp only [List.mem_cons, List.not_mem_nil, or_false] at hy hz
    rcases hy with rfl | rfl | rfl <;> rcases hz with rfl | rfl | rfl <;> (show @Ne Nat _ _; omega)) (fun p hp => by
    simp only [OT, List.mem_cons] at hp
    rcases hp with rfl | rfl | rfl | rfl | rfl | rfl | hp
    rotate_right
    · exact .inl hp
    all_goals (refine .inr fun z hz => ?_; simp only [List.mem_cons, List.not_mem_nil, or_false] at hz; rcases hz with rfl | rfl | rfl <;> (dsimp only [Cst.hp, Cst.mi, Cst.md, Cst.ci, Cst.cd, Tsk.ti, Tsk.di]; show @Ne Nat _ _; omega))) (fun p hp => .tail _ (.tail _ hp)) hin (fun p hp z hz => hxt p hp z (by simp only [List.mem_cons, List.not_mem_nil, or_false] at hz ⊢; rcases hz with rfl | rfl | rfl <;> simp)) (by k_mem) (by k_mem) (by k_mem)
  have hrm : ∀ r ∈ rs, (r.q, r.obj) ∈ ML c (e :: es) nH now tk3 cnt tkc t1 ((L + 1 + 1, ocs) :: (L + 1, ock) :: OT c t0 t2 (e :: es) rs) := fun r hr => List.mem_append_right [_, _, _, _, _, _, _, _, _, _, _, _, _] (tup_r (es := e :: es) hr)
  have hMM : ∀ p ∈ c.mi :: c.md now tk3 :: [], p ∈ ML c (e :: es) nH now tk3 cnt tkc t1 ((L + 1 + 1, ocs) :: (L + 1, ock) :: OT c t0 t2 (e :: es) rs) := fun p hp => by
    simp only [List.mem_cons, List.not_mem_nil, or_false] at hp
    rcases hp with rfl | rfl <;> k_mem
  have NK : News h₀ L s.heap ((R, PySem.W.listOf (rrefs rs) nR) :: (TM, PySem.W.listOf #[u0, u1, u2] nM) :: (TL, PySem.W.listOf #[.ref t0.T, .ref t1.T, .ref t2.T] 0) :: ML c (e :: es) nH now tk3 cnt tkc t1 ((L + 1 + 1, ocs) :: (L + 1, ock) :: OT c t0 t2 (e :: es) rs)) := news_sub N fun p hp => by
    simp only [LD, ML, OT, List.mem_cons] at hp ⊢
    rcases hp with h | h | h | h | h | h | h | h | h | h | h | h | h | h | h | h | h <;> simp only [h, true_or, or_true]
  have hl3 := J.len3
  have hlen := J.len
  have fin : ∀ (mrest' : List (Addr × Obj)) (D : Addr) (d : Row3) (ds : List Row3) (nD : Nat) (u' : Str → Option Value) (h' : Heap) (tk' : Tok), e.w ≤ now → mrest' = ML c (ppp (e :: es)) (nH + 1) now tk3 cnt tkc { t1 with b := false } ((L + 1 + 1, ocs) :: (L + 1, ock) :: OT c t0 t2 (e :: es) rs) → (d :: ds).Perm rs → Srt (d :: ds) → (∀ r ∈ rs, (r.q, r.obj) ∈ mrest') → Fr h₀ L h' (lawM c.M TL TM D now cnt tknow tkturn u') → News h₀ L h' ((D, PySem.W.listOf (rrefs ds) nD) :: (R, PySem.W.listOf (rrefs rs) nR) :: (TM, PySem.W.listOf #[u0, u1, u2] nM) :: (TL, PySem.W.listOf #[.ref t0.T, .ref t1.T, .ref t2.T] 0) :: mrest') → (∀ p ∈ (R, PySem.W.listOf (rrefs rs) nR) :: (TM, PySem.W.listOf #[u0, u1, u2] nM) :: (TL, PySem.W.listOf #[.ref t0.T, .ref t1.T, .ref t2.T] 0) :: mrest', p.1 < D) →
      wpAny (model Challenge.rw_fe0018_01.row.prog w) (callerA.deeper (lawEnv L fa cdv)) (execs (loopBody.drop 4) (lawEnv L fa cdv)) Q E { s with heap := h', toks := tk' } := by
    intro mrest' D d ds nD u' h' tk' hle hm hp hs hrs' F' N' lt
    subst hm
    obtain ⟨d9, ds9, e9, hdw, hdt, hdk3, J'⟩ := split_rows J hp hs
    cases e9
    have hdk : d.k = 1 := I.eq hdk3 (by decide) (by show tkf t0.T t1.T t2.T d.k = _; rw [hdt, het]; rfl)
    obtain ⟨vk, dk⟩ := dk0
    have h2 : es.length ≤ 2 := by simp only [List.length_cons] at hlen; omega
    have S4 : Sit c L TL TM t0.T t0.d t1.T t1.d t2.T t2.d D now cnt (ppp (e :: es)) ds t0 ({ t1 with b := false }) t2 u0 u1 u2 ocs ock := by
      refine ⟨ch', ⟨?_, ?_, ?_, ?_, ?_, ?_, ?_, ?_, ?_, ?_⟩, ⟨rfl, rfl⟩, ⟨rfl, rfl⟩, ⟨rfl, rfl⟩, by rw [stands_pop hp J.knd, hdk, if_neg (by decide)]; exact b0, by rw [stands_pop hp J.knd, hdk]; simp, by rw [stands_pop hp J.knd, hdk, if_neg (by decide)]; exact b2, v0, v1, v2, ⟨_, ds1⟩, ⟨_, dk⟩, pos, J', hxt⟩
      · exact Nat.ne_of_gt (lt (TM, _) (by k_mem))
      · exact Nat.ne_of_gt (lt (L + 1 + 1, _) (by k_mem))
      · exact Nat.ne_of_gt (lt (L + 1, _) (by k_mem))
      · exact Nat.ne_of_gt (lt (c.H, _) (by k_mem))
      · exact Nat.ne_of_gt (lt (c.dM, _) (by k_mem))
      · exact Nat.ne_of_gt (lt (c.C, _) (by k_mem))
      · exact Nat.ne_of_gt (lt (t0.d, _) (by k_mem))
      · exact Nat.ne_of_gt (lt (t1.d, _) (by k_mem))
      · exact Nat.ne_of_gt (lt (t2.d, _) (by k_mem))
      · exact fun p hp => Nat.ne_of_lt (lt p (List.mem_append_right [_, _, _, _, _, _, _, _, _, _, _, _, _, _, _, _] (tup_x (es := e :: es) (rs := rs) hp)))
    have N2 := news_sub N' (l' := LD c L TL TM D (ppp (e :: es)) (nH + 1) nD nM now tk3 cnt tkc t0 ({ t1 with b := false }) t2 u0 u1 u2 ocs ock ds) (fun p hp' => by
      simp only [LD, ML, OT, List.mem_cons] at hp' ⊢
      rcases hp' with h | h | h | h | h | h | h | h | h | h | h | h | h | h | h | h | hp'
      rotate_right
      · rcases tup_cases hp' with ⟨y, hy, rfl⟩ | ⟨y, hy, rfl⟩ | hp'
        · have := tup_e (c := c) (es := e :: es) (rs := rs) (.tail _ (ppp_mem h2 hy))
          simp only [this, or_true]
        · have := tup_r (c := c) (es := e :: es) (hp.mem_iff.mp (List.mem_cons_of_mem d hy))
          simp only [this, or_true]
        · have := tup_x (c := c) (es := e :: es) (rs := rs) hp'
          simp only [this, or_true]
      all_goals simp only [h, true_or, or_true])
    have hln : ds.length = rs.length - 1 := by have := hp.length_eq; simp only [List.length_cons] at this; omega
    exact fin18 X T S4 F' N2 (fun ocs' u'' h'' tk'' S3 F3 N3 => hQ _ _ _ _ _ _ _ ⟨rfl, fun h => ⟨hln, fun r hr => h r (hp.mem_iff.mp (.tail _ hr))⟩⟩ ⟨_, _, _, _, _, _, _, _, _, _, _, _, _, _, _, _, _, S3, rfl, F3, N3⟩) B
  by_cases hle : e.w ≤ now
  · cases hpp : ppp (e :: es) with
    | nil =>
      refine bnextC (P := fun m => m = ML c (ppp (e :: es)) (nH + 1) now tk3 cnt tkc { t1 with b := false } ((L + 1 + 1, ocs) :: (L + 1, ock) :: OT c t0 t2 (e :: es) rs)) (mrest := ML c (e :: es) nH now tk3 cnt tkc t1 ((L + 1 + 1, ocs) :: (L + 1, ock) :: OT c t0 t2 (e :: es) rs)) (W := 0) (Ts := t1.T) X T F hrm J.len3 J.rpw hMM NK (fun s' m' lead Q' E' hl B' F' N' h => pvG X T K het s' m' lead Q' E' hl B' F' N' (fun hlt => absurd hle (by omega)) (fun _ _ mrest' Dt h' tk' hm => h mrest' Dt h' tk' (by rw [hpp]; exact hm)) (fun _ e2 es2 hq => by rw [hpp] at hq; cases hq)) (fun ds hp hs => ?_) (fun mrest' D d ds nD u' h' tk' hP hp hs hrs' F' N' lt => fin mrest' D d ds nD u' h' tk' hle hP hp hs hrs' F' N' lt) B
      obtain ⟨d, ds', rfl, hdw, hdt, hdk3, J'⟩ := split_rows J hp hs
      rw [hpp] at J'
      obtain rfl : ds' = [] := List.length_eq_zero_iff.mp J'.len.symm
      exact ⟨d, rfl, by omega, sel_of hdk3 (hdt.trans het)⟩
    | cons e2 es2 =>
      have selD : ∀ ds : List Row3, ds.Perm rs → Srt ds → ∃ d d2 ds', ds = d :: d2 :: ds' ∧ d.w ≤ now ∧ d2.w = e2.w ∧ ds'.length = es2.length ∧ SelAt d.k t0.T t1.T t2.T t1.T := fun ds hp hs => by
        obtain ⟨d, ds', rfl, hdw, hdt, hdk3, J'⟩ := split_rows J hp hs
        rw [hpp] at J'
        obtain ⟨d2, ds2, rfl, hdw2, _, _, _⟩ := split_rows J' (.refl _) (List.pairwise_cons.mp hs).2
        have := J'.len
        exact ⟨d, d2, ds2, rfl, by omega, hdw2, by simpa using this.symm, sel_of hdk3 (hdt.trans het)⟩
      have hl1 : es2.length ≤ 1 := by
        have := ppp_len (e := e) (es := es) (by simp only [List.length_cons] at hlen; omega)
        rw [hpp] at this; simpa using this
      by_cases hlt : e2.w < now
      · have call : ∀ (s' : Shared) (m' : Str → Option Value) (lead : List (Addr × Obj)) (Q' : Value → Shared → Prop) (E' : Value → Shared → Prop), (∀ p ∈ lead, p.1 ∈ [R, TM, TL]) → Below callerA h₀ [] h₀ → Fr h₀ L s'.heap m' → News h₀ L s'.heap (lead ++ ML c (e :: es) nH now tk3 cnt tkc t1 ((L + 1 + 1, ocs) :: (L + 1, ock) :: OT c t0 t2 (e :: es) rs)) →
            (∀ (mrest' : List (Addr × Obj)) (Dt : Addr) (h' : Heap) (tk' : Tok) (tv : Tok), mrest' = ML c (ppp (e :: es)) (nH + 1) now tk3 cnt tkc { t1 with b := false } ((L + 1 + 1, ocs) :: (L + 1, ock) :: OT c t0 t2 (e :: es) rs) → (∀ r ∈ rs, (r.q, r.obj) ∈ mrest') → Fr h₀ L h' m' → News h₀ L h' ((Dt, { cls := .type "tuple", data := .seq #[.ref t1.T, .float 0 tv] }) :: (lead ++ mrest')) → Q' (.ref Dt) { s' with heap := h', toks := tk' }) →
            wpAny (model Challenge.rw_fe0018_01.row.prog w) (callerA.deeper (lawEnv L fa cdv)) (call (.ref 234) [.ref c.M]) Q' E' s' := fun s' m' lead Q' E' hl B' F' N' h =>
          pvG X T K het s' m' lead Q' E' hl B' F' N' (fun hlt => absurd hle (by omega)) (fun _ hq => by rw [hpp] at hq; cases hq) (fun _ e3 es3 hq mrest' Dt h' tk' v tv hv hm hr hF hN => by
            rw [hpp] at hq; cases hq
            rcases hv with ⟨rfl, _⟩ | ⟨_, hv⟩
            · exact h mrest' Dt h' tk' tv (by rw [hpp]; exact hm) hr hF hN
            · omega)
        rcases Nat.le_one_iff_eq_zero_or_eq_one.mp hl1 with hz | hz
        · rw [hz] at selD
          exact bnextDF2 (P := fun m => m = ML c (ppp (e :: es)) (nH + 1) now tk3 cnt tkc { t1 with b := false } ((L + 1 + 1, ocs) :: (L + 1, ock) :: OT c t0 t2 (e :: es) rs)) (mrest := ML c (e :: es) nH now tk3 cnt tkc t1 ((L + 1 + 1, ocs) :: (L + 1, ock) :: OT c t0 t2 (e :: es) rs)) (W := e2.w) (Ts := t1.T) X T F hrm J.len3 J.rpw hMM NK call hlt selD (fun mrest' D d ds nD u' h' tk' hP hp hs hrs' F' N' lt => fin mrest' D d ds nD u' h' tk' hle hP hp hs hrs' F' N' lt) B
        · rw [hz] at selD
          exact bnextDF3 (P := fun m => m = ML c (ppp (e :: es)) (nH + 1) now tk3 cnt tkc { t1 with b := false } ((L + 1 + 1, ocs) :: (L + 1, ock) :: OT c t0 t2 (e :: es) rs)) (mrest := ML c (e :: es) nH now tk3 cnt tkc t1 ((L + 1 + 1, ocs) :: (L + 1, ock) :: OT c t0 t2 (e :: es) rs)) (W := e2.w) (Ts := t1.T) X T F hrm J.len3 J.rpw hMM NK call hlt selD (fun mrest' D d ds nD u' h' tk' hP hp hs hrs' F' N' lt => fin mrest' D d ds nD u' h' tk' hle hP hp hs hrs' F' N' lt) B
      · have call : ∀ (s' : Shared) (m' : Str → Option Value) (lead : List (Addr × Obj)) (Q' : Value → Shared → Prop) (E' : Value → Shared → Prop), (∀ p ∈ lead, p.1 ∈ [R, TM, TL]) → Below callerA h₀ [] h₀ → Fr h₀ L s'.heap m' → News h₀ L s'.heap (lead ++ ML c (e :: es) nH now tk3 cnt tkc t1 ((L + 1 + 1, ocs) :: (L + 1, ock) :: OT c t0 t2 (e :: es) rs)) →
            (∀ (mrest' : List (Addr × Obj)) (Dt : Addr) (h' : Heap) (tk' : Tok) (tv : Tok), mrest' = ML c (ppp (e :: es)) (nH + 1) now tk3 cnt tkc { t1 with b := false } ((L + 1 + 1, ocs) :: (L + 1, ock) :: OT c t0 t2 (e :: es) rs) → (∀ r ∈ rs, (r.q, r.obj) ∈ mrest') → Fr h₀ L h' m' → News h₀ L h' ((Dt, { cls := .type "tuple", data := .seq #[.ref t1.T, .int (e2.w - now) tv] }) :: (lead ++ mrest')) → Q' (.ref Dt) { s' with heap := h', toks := tk' }) →
            wpAny (model Challenge.rw_fe0018_01.row.prog w) (callerA.deeper (lawEnv L fa cdv)) (call (.ref 234) [.ref c.M]) Q' E' s' := fun s' m' lead Q' E' hl B' F' N' h =>
          pvG X T K het s' m' lead Q' E' hl B' F' N' (fun hlt => absurd hle (by omega)) (fun _ hq => by rw [hpp] at hq; cases hq) (fun _ e3 es3 hq mrest' Dt h' tk' v tv hv hm hr hF hN => by
            rw [hpp] at hq; cases hq
            rcases hv with ⟨_, hv⟩ | ⟨rfl, _⟩
            · omega
            · exact h mrest' Dt h' tk' tv (by rw [hpp]; exact hm) hr hF hN)
        rcases Nat.le_one_iff_eq_zero_or_eq_one.mp hl1 with hz | hz
        · rw [hz] at selD
          exact bnextDI2 (P := fun m => m = ML c (ppp (e :: es)) (nH + 1) now tk3 cnt tkc { t1 with b := false } ((L + 1 + 1, ocs) :: (L + 1, ock) :: OT c t0 t2 (e :: es) rs)) (mrest := ML c (e :: es) nH now tk3 cnt tkc t1 ((L + 1 + 1, ocs) :: (L + 1, ock) :: OT c t0 t2 (e :: es) rs)) (W := e2.w) (Ts := t1.T) X T F hrm J.len3 J.rpw hMM NK call (by omega) selD (fun mrest' D d ds nD u' h' tk' hP hp hs hrs' F' N' lt => fin mrest' D d ds nD u' h' tk' hle hP hp hs hrs' F' N' lt) B
        · rw [hz] at selD
          exact bnextDI3 (P := fun m => m = ML c (ppp (e :: es)) (nH + 1) now tk3 cnt tkc { t1 with b := false } ((L + 1 + 1, ocs) :: (L + 1, ock) :: OT c t0 t2 (e :: es) rs)) (mrest := ML c (e :: es) nH now tk3 cnt tkc t1 ((L + 1 + 1, ocs) :: (L + 1, ock) :: OT c t0 t2 (e :: es) rs)) (W := e2.w) (Ts := t1.T) X T F hrm J.len3 J.rpw hMM NK call (by omega) selD (fun mrest' D d ds nD u' h' tk' hP hp hs hrs' F' N' lt => fin mrest' D d ds nD u' h' tk' hle hP hp hs hrs' F' N' lt) B
  · refine bnextB (P := fun m => m = ML c (e :: es) nH now tk3 cnt tkc t1 ((L + 1 + 1, ocs) :: (L + 1, ock) :: OT c t0 t2 (e :: es) rs)) (mrest := ML c (e :: es) nH now tk3 cnt tkc t1 ((L + 1 + 1, ocs) :: (L + 1, ock) :: OT c t0 t2 (e :: es) rs)) (W := e.w) (Ts := TL) X T F hrm J.len3 J.rpw hMM NK (fun s' m' lead Q' E' hl B' F' N' h => pvG X T K het s' m' lead Q' E' hl B' F' N' (fun _ mrest' Dt h' tk' tv hm => h mrest' Dt h' tk' tv hm) (fun hq => absurd hq hle) (fun hq => absurd hq hle)) (by omega) (fun ds hp hs => ?_) (fun mrest' u' h' tk' hP hrs' F' N' => ?_) B
    · obtain ⟨d, ds', rfl, hdw, _, _, _⟩ := split_rows J hp hs
      exact ⟨d, ds', rfl, hdw⟩
    · subst hP
      obtain ⟨r9, hr9, hw9, _, _⟩ := J.ent (.head _ : e ∈ e :: es)
      refine fin18 (nH := nH) (nR := nR) (nM := nM) (tk3 := tk3) (tkc := tkc) X T S2 F' (news_sub N' fun p hp => ?_) (fun ocs' u'' h'' tk'' S3 F3 N3 => hQ _ _ _ _ _ _ _ ⟨rfl, fun h => absurd (h r9 hr9) (by omega)⟩ ⟨_, _, _, _, _, _, _, _, _, _, _, _, _, _, _, _, _, S3, rfl, F3, N3⟩) B
      simp only [LD, ML, OT, List.mem_cons] at hp ⊢
      rcases hp with h | h | h | h | h | h | h | h | h | h | h | h | h | h | h | h | h <;> simp only [h, true_or, or_true]
theorem stpG2 {w : World} {s s₀ : Shared} {h₀ : Heap} {L fa : Addr} {cdv : Value} {mg mb : Str → Option Value} {u : Str → Option Value} {Q : Flow → Shared → Prop} {E : Value → Shared → Prop}
  {c : Cst} {TL TM T0 d0 T1 d1 T2 d2 R : Addr} {now cnt x : Int} {e : Ent} {es : List Ent} {rs : List Row3} {t0 t1 t2 : Tsk} {u0 u1 u2 : Value} {ocs ock : Obj} {nH nR nM : Nat} {tk3 tkc tknow tkturn tkx tkkd tkk : Tok}
  (X : (hd.heap_39 w.params).In h₀) (T : T18 s₀ mg mb h₀) (S : Sit c L TL TM T0 d0 T1 d1 T2 d2 R now cnt (e :: es) rs t0 t1 t2 u0 u1 u2 ocs ock) (hx : 0 ≤ x ∧ x ≤ 1999)
  (F : Fr h₀ L s.heap (fun y => if y = Str.ofString "x" then some (.int x tkx) else if y = Str.ofString "kind" then some (.int 5 tkkd) else lawM c.M TL TM R now cnt tknow tkturn u y))
  (N : News h₀ L s.heap (LD c L TL TM R (e :: es) nH nR nM now tk3 cnt tkc t0 t1 t2 u0 u1 u2 ocs ock rs))
  (het : e.t = t2.T)
  (hQ : ∀ (now' cnt' : Int) (es' : List Ent) (rs' : List Row3) (h' : Heap) (m' : Str → Option Value) (tk' : Tok), now' = now ∧ ((∀ r ∈ rs, r.w ≤ now) → rs'.length = rs.length - 1 ∧ ∀ r ∈ rs', r.w ≤ now) → Rep18 h₀ c L TL TM T0 d0 T1 d1 T2 d2 now' cnt' es' rs' h' m' → Q .next { s with heap := h', toks := tk' })
  (B : Below callerA h₀ [] h₀) : wpAny (model Challenge.rw_fe0018_01.row.prog w) (callerA.deeper (lawEnv L fa cdv)) (exec loopIf (lawEnv L fa cdv)) (fun f s' => match f with | .next => wpAny (model Challenge.rw_fe0018_01.row.prog w) (callerA.deeper (lawEnv L fa cdv)) (execs (loopBody.drop 4) (lawEnv L fa cdv)) Q E s' | f => Q f s') E s := by
  have S2 := S
  obtain ⟨ch, rn, a0, a1, a2, b0, b1, b2, v0, v1, v2, ⟨vs, ds1⟩, dk0, pos, J, hxt⟩ := S
  have I := ch.inj
  obtain ⟨a3, a4⟩ := a0; subst a3; subst a4
  obtain ⟨a3, a4⟩ := a1; subst a3; subst a4
  obtain ⟨a3, a4⟩ := a2; subst a3; subst a4
  have ch' := ch
  have rn' := rn
  obtain ⟨h1, h2, h3, h4, h5, h6, h7, h8, h9, h10, h11, h12, h13⟩ := ch
  obtain ⟨r1, r2, r3, r4, r5, r6, r7, r8, r9, r10⟩ := rn
  have hin : ∀ p ∈ tup c (e :: es) rs, p ∈ LD c L TL TM R (e :: es) nH nR nM now tk3 cnt tkc t0 t1 t2 u0 u1 u2 ocs ock rs := fun p hp => List.mem_append_right [_, _, _, _, _, _, _, _, _, _, _, _, _, _, _, _] hp
  have K : Ctx18 c (e :: es) cnt t2 ((L + 1 + 1, ocs) :: (L + 1, ock) :: OT c t0 t1 (e :: es) rs) rs [R, TM, TL] := ctx18 (k := 2) (t := t2) (a := t0) (b := t1) (tkc := tkc) (nH := nH) (by decide) rfl b2 J I (fun y hy => by rcases hy with rfl | rfl | rfl <;> simp [tkf]) N ⟨by omega, by omega, by omega, by omega, by omega, by omega, by omega, by omega, by omega, by omega, by omega, by omega, by omega, by omega, by omega⟩ (fun y hy z hz => by
    simp only [List.mem_cons, List.not_mem_nil, or_false] at hy hz
    rcases hy with rfl | rfl | rfl <;> rcases hz with rfl | rfl | rfl <;> (show @Ne Nat _ _; omega)) (fun p hp => by
    simp only [OT, List.mem_cons] at hp
    rcases hp with rfl | rfl | rfl | rfl | rfl | rfl | hp
    rotate_right
    · exact .inl hp
    all_goals (refine .inr fun z hz => ?_; simp only [List.mem_cons, List.not_mem_nil, or_false] at hz; rcases hz with rfl | rfl | rfl <;> (dsimp only [Cst.hp, Cst.mi, Cst.md, Cst.ci, Cst.cd, Tsk.ti, Tsk.di]; show @Ne Nat _ _; omega))) (fun p hp => .tail _ (.tail _ hp)) hin (fun p hp z hz => hxt p hp z (by simp only [List.mem_cons, List.not_mem_nil, or_false] at hz ⊢; rcases hz with rfl | rfl | rfl <;> simp)) (by k_mem) (by k_mem) (by k_mem)
  have hrm : ∀ r ∈ rs, (r.q, r.obj) ∈ ML c (e :: es) nH now tk3 cnt tkc t2 ((L + 1 + 1, ocs) :: (L + 1, ock) :: OT c t0 t1 (e :: es) rs) := fun r hr => List.mem_append_right [_, _, _, _, _, _, _, _, _, _, _, _, _] (tup_r (es := e :: es) hr)
  have hMM : ∀ p ∈ c.mi :: c.md now tk3 :: [], p ∈ ML c (e :: es) nH now tk3 cnt tkc t2 ((L + 1 + 1, ocs) :: (L + 1, ock) :: OT c t0 t1 (e :: es) rs) := fun p hp => by
    simp only [List.mem_cons, List.not_mem_nil, or_false] at hp
    rcases hp with rfl | rfl <;> k_mem
  have NK : News h₀ L s.heap ((R, PySem.W.listOf (rrefs rs) nR) :: (TM, PySem.W.listOf #[u0, u1, u2] nM) :: (TL, PySem.W.listOf #[.ref t0.T, .ref t1.T, .ref t2.T] 0) :: ML c (e :: es) nH now tk3 cnt tkc t2 ((L + 1 + 1, ocs) :: (L + 1, ock) :: OT c t0 t1 (e :: es) rs)) := news_sub N fun p hp => by
    simp only [LD, ML, OT, List.mem_cons] at hp ⊢
    rcases hp with h | h | h | h | h | h | h | h | h | h | h | h | h | h | h | h | h <;> simp only [h, true_or, or_true]
  have hl3 := J.len3
  have hlen := J.len
  have fin : ∀ (mrest' : List (Addr × Obj)) (D : Addr) (d : Row3) (ds : List Row3) (nD : Nat) (u' : Str → Option Value) (h' : Heap) (tk' : Tok), e.w ≤ now → mrest' = ML c (ppp (e :: es)) (nH + 1) now tk3 cnt tkc { t2 with b := false } ((L + 1 + 1, ocs) :: (L + 1, ock) :: OT c t0 t1 (e :: es) rs) → (d :: ds).Perm rs → Srt (d :: ds) → (∀ r ∈ rs, (r.q, r.obj) ∈ mrest') → Fr h₀ L h' (lawM c.M TL TM D now cnt tknow tkturn u') → News h₀ L h' ((D, PySem.W.listOf (rrefs ds) nD) :: (R, PySem.W.listOf (rrefs rs) nR) :: (TM, PySem.W.listOf #[u0, u1, u2] nM) :: (TL, PySem.W.listOf #[.ref t0.T, .ref t1.T, .ref t2.T] 0) :: mrest') → (∀ p ∈ (R, PySem.W.listOf (rrefs rs) nR) :: (TM, PySem.W.listOf #[u0, u1, u2] nM) :: (TL, PySem.W.listOf #[.ref t0.T, .ref t1.T, .ref t2.T] 0) :: mrest', p.1 < D) →
      wpAny (model Challenge.rw_fe0018_01.row.prog w) (callerA.deeper (lawEnv L fa cdv)) (execs (loopBody.drop 4) (lawEnv L fa cdv)) Q E { s with heap := h', toks := tk' } := by
    intro mrest' D d ds nD u' h' tk' hle hm hp hs hrs' F' N' lt
    subst hm
    obtain ⟨d9, ds9, e9, hdw, hdt, hdk3, J'⟩ := split_rows J hp hs
    cases e9
    have hdk : d.k = 2 := I.eq hdk3 (by decide) (by show tkf t0.T t1.T t2.T d.k = _; rw [hdt, het]; rfl)
    obtain ⟨vk, dk⟩ := dk0
    have h2 : es.length ≤ 2 := by simp only [List.length_cons] at hlen; omega
    have S4 : Sit c L TL TM t0.T t0.d t1.T t1.d t2.T t2.d D now cnt (ppp (e :: es)) ds t0 t1 ({ t2 with b := false }) u0 u1 u2 ocs ock := by
      refine ⟨ch', ⟨?_, ?_, ?_, ?_, ?_, ?_, ?_, ?_, ?_, ?_⟩, ⟨rfl, rfl⟩, ⟨rfl, rfl⟩, ⟨rfl, rfl⟩, by rw [stands_pop hp J.knd, hdk, if_neg (by decide)]; exact b0, by rw [stands_pop hp J.knd, hdk, if_neg (by decide)]; exact b1, by rw [stands_pop hp J.knd, hdk]; simp, v0, v1, v2, ⟨_, ds1⟩, ⟨_, dk⟩, pos, J', hxt⟩
      · exact Nat.ne_of_gt (lt (TM, _) (by k_mem))
      · exact Nat.ne_of_gt (lt (L + 1 + 1, _) (by k_mem))
      · exact Nat.ne_of_gt (lt (L + 1, _) (by k_mem))
      · exact Nat.ne_of_gt (lt (c.H, _) (by k_mem))
      · exact Nat.ne_of_gt (lt (c.dM, _) (by k_mem))
      · exact Nat.ne_of_gt (lt (c.C, _) (by k_mem))
      · exact Nat.ne_of_gt (lt (t0.d, _) (by k_mem))
      · exact Nat.ne_of_gt (lt (t1.d, _) (by k_mem))
      · exact Nat.ne_of_gt (lt (t2.d, _) (by k_mem))
      · exact fun p hp => Nat.ne_of_lt (lt p (List.mem_append_right [_, _, _, _, _, _, _, _, _, _, _, _, _, _, _, _] (tup_x (es := e :: es) (rs := rs) hp)))
    have N2 := news_sub N' (l' := LD c L TL TM D (ppp (e :: es)) (nH + 1) nD nM now tk3 cnt tkc t0 t1 ({ t2 with b := false }) u0 u1 u2 ocs ock ds) (fun p hp' => by
      simp only [LD, ML, OT, List.mem_cons] at hp' ⊢
      rcases hp' with h | h | h | h | h | h | h | h | h | h | h | h | h | h | h | h | hp'
      rotate_right
      · rcases tup_cases hp' with ⟨y, hy, rfl⟩ | ⟨y, hy, rfl⟩ | hp'
        · have := tup_e (c := c) (es := e :: es) (rs := rs) (.tail _ (ppp_mem h2 hy))
          simp only [this, or_true]
        · have := tup_r (c := c) (es := e :: es) (hp.mem_iff.mp (List.mem_cons_of_mem d hy))
          simp only [this, or_true]
        · have := tup_x (c := c) (es := e :: es) (rs := rs) hp'
          simp only [this, or_true]
      all_goals simp only [h, true_or, or_true])
    have hln : ds.length = rs.length - 1 := by have := hp.length_eq; simp only [List.length_cons] at this; omega
    exact fin18 X T S4 F' N2 (fun ocs' u'' h'' tk'' S3 F3 N3 => hQ _ _ _ _ _ _ _ ⟨rfl, fun h => ⟨hln, fun r hr => h r (hp.mem_iff.mp (.tail _ hr))⟩⟩ ⟨_, _, _, _, _, _, _, _, _, _, _, _, _, _, _, _, _, S3, rfl, F3, N3⟩) B
  by_cases hle : e.w ≤ now
  · cases hpp : ppp (e :: es) with
    | nil =>
      refine bnextC (P := fun m => m = ML c (ppp (e :: es)) (nH + 1) now tk3 cnt tkc { t2 with b := false } ((L + 1 + 1, ocs) :: (L + 1, ock) :: OT c t0 t1 (e :: es) rs)) (mrest := ML c (e :: es) nH now tk3 cnt tkc t2 ((L + 1 + 1, ocs) :: (L + 1, ock) :: OT c t0 t1 (e :: es) rs)) (W := 0) (Ts := t2.T) X T F hrm J.len3 J.rpw hMM NK (fun s' m' lead Q' E' hl B' F' N' h => pvG X T K het s' m' lead Q' E' hl B' F' N' (fun hlt => absurd hle (by omega)) (fun _ _ mrest' Dt h' tk' hm => h mrest' Dt h' tk' (by rw [hpp]; exact hm)) (fun _ e2 es2 hq => by rw [hpp] at hq; cases hq)) (fun ds hp hs => ?_) (fun mrest' D d ds nD u' h' tk' hP hp hs hrs' F' N' lt => fin mrest' D d ds nD u' h' tk' hle hP hp hs hrs' F' N' lt) B
      obtain ⟨d, ds', rfl, hdw, hdt, hdk3, J'⟩ := split_rows J hp hs
      rw [hpp] at J'
      obtain rfl : ds' = [] := List.length_eq_zero_iff.mp J'.len.symm
      exact ⟨d, rfl, by omega, sel_of hdk3 (hdt.trans het)⟩
    | cons e2 es2 =>
      have selD : ∀ ds : List Row3, ds.Perm rs → Srt ds → ∃ d d2 ds', ds = d :: d2 :: ds' ∧ d.w ≤ now ∧ d2.w = e2.w ∧ ds'.length = es2.length ∧ SelAt d.k t0.T t1.T t2.T t2.T := fun ds hp hs => by
        obtain ⟨d, ds', rfl, hdw, hdt, hdk3, J'⟩ := split_rows J hp hs
        rw [hpp] at J'
        obtain ⟨d2, ds2, rfl, hdw2, _, _, _⟩ := split_rows J' (.refl _) (List.pairwise_cons.mp hs).2
        have := J'.len
        exact ⟨d, d2, ds2, rfl, by omega, hdw2, by simpa using this.symm, sel_of hdk3 (hdt.trans het)⟩
      have hl1 : es2.length ≤ 1 := by
        have := ppp_len (e := e) (es := es) (by simp only [List.length_cons] at hlen; omega)
        rw [hpp] at this; simpa using this
      by_cases hlt : e2.w < now
      · have call : ∀ (s' : Shared) (m' : Str → Option Value) (lead : List (Addr × Obj)) (Q' : Value → Shared → Prop) (E' : Value → Shared → Prop), (∀ p ∈ lead, p.1 ∈ [R, TM, TL]) → Below callerA h₀ [] h₀ → Fr h₀ L s'.heap m' → News h₀ L s'.heap (lead ++ ML c (e :: es) nH now tk3 cnt tkc t2 ((L + 1 + 1, ocs) :: (L + 1, ock) :: OT c t0 t1 (e :: es) rs)) →
            (∀ (mrest' : List (Addr × Obj)) (Dt : Addr) (h' : Heap) (tk' : Tok) (tv : Tok), mrest' = ML c (ppp (e :: es)) (nH + 1) now tk3 cnt tkc { t2 with b := false } ((L + 1 + 1, ocs) :: (L + 1, ock) :: OT c t0 t1 (e :: es) rs) → (∀ r ∈ rs, (r.q, r.obj) ∈ mrest') → Fr h₀ L h' m' → News h₀ L h' ((Dt, { cls := .type "tuple", data := .seq #[.ref t2.T, .float 0 tv] }) :: (lead ++ mrest')) → Q' (.ref Dt) { s' with heap := h', toks := tk' }) →
            wpAny (model Challenge.rw_fe0018_01.row.prog w) (callerA.deeper (lawEnv L fa cdv)) (call (.ref 234) [.ref c.M]) Q' E' s' := fun s' m' lead Q' E' hl B' F' N' h =>
          pvG X T K het s' m' lead Q' E' hl B' F' N' (fun hlt => absurd hle (by omega)) (fun _ hq => by rw [hpp] at hq; cases hq) (fun _ e3 es3 hq mrest' Dt h' tk' v tv hv hm hr hF hN => by
            rw [hpp] at hq; cases hq
            rcases hv with ⟨rfl, _⟩ | ⟨_, hv⟩
            · exact h mrest' Dt h' tk' tv (by rw [hpp]; exact hm) hr hF hN
            · omega)
        rcases Nat.le_one_iff_eq_zero_or_eq_one.mp hl1 with hz | hz
        · rw [hz] at selD
          exact bnextDF2 (P := fun m => m = ML c (ppp (e :: es)) (nH + 1) now tk3 cnt tkc { t2 with b := false } ((L + 1 + 1, ocs) :: (L + 1, ock) :: OT c t0 t1 (e :: es) rs)) (mrest := ML c (e :: es) nH now tk3 cnt tkc t2 ((L + 1 + 1, ocs) :: (L + 1, ock) :: OT c t0 t1 (e :: es) rs)) (W := e2.w) (Ts := t2.T) X T F hrm J.len3 J.rpw hMM NK call hlt selD (fun mrest' D d ds nD u' h' tk' hP hp hs hrs' F' N' lt => fin mrest' D d ds nD u' h' tk' hle hP hp hs hrs' F' N' lt) B
        · rw [hz] at selD
          exact bnextDF3 (P := fun m => m = ML c (ppp (e :: es)) (nH + 1) now tk3 cnt tkc { t2 with b := false } ((L + 1 + 1, ocs) :: (L + 1, ock) :: OT c t0 t1 (e :: es) rs)) (mrest := ML c (e :: es) nH now tk3 cnt tkc t2 ((L + 1 + 1, ocs) :: (L + 1, ock) :: OT c t0 t1 (e :: es) rs)) (W := e2.w) (Ts := t2.T) X T F hrm J.len3 J.rpw hMM NK call hlt selD (fun mrest' D d ds nD u' h' tk' hP hp hs hrs' F' N' lt => fin mrest' D d ds nD u' h' tk' hle hP hp hs hrs' F' N' lt) B
      · have call : ∀ (s' : Shared) (m' : Str → Option Value) (lead : List (Addr × Obj)) (Q' : Value → Shared → Prop) (E' : Value → Shared → Prop), (∀ p ∈ lead, p.1 ∈ [R, TM, TL]) → Below callerA h₀ [] h₀ → Fr h₀ L s'.heap m' → News h₀ L s'.heap (lead ++ ML c (e :: es) nH now tk3 cnt tkc t2 ((L + 1 + 1, ocs) :: (L + 1, ock) :: OT c t0 t1 (e :: es) rs)) →
            (∀ (mrest' : List (Addr × Obj)) (Dt : Addr) (h' : Heap) (tk' : Tok) (tv : Tok), mrest' = ML c (ppp (e :: es)) (nH + 1) now tk3 cnt tkc { t2 with b := false } ((L + 1 + 1, ocs) :: (L + 1, ock) :: OT c t0 t1 (e :: es) rs) → (∀ r ∈ rs, (r.q, r.obj) ∈ mrest') → Fr h₀ L h' m' → News h₀ L h' ((Dt, { cls := .type "tuple", data := .seq #[.ref t2.T, .int (e2.w - now) tv] }) :: (lead ++ mrest')) → Q' (.ref Dt) { s' with heap := h', toks := tk' }) →
            wpAny (model Challenge.rw_fe0018_01.row.prog w) (callerA.deeper (lawEnv L fa cdv)) (call (.ref 234) [.ref c.M]) Q' E' s' := fun s' m' lead Q' E' hl B' F' N' h =>
          pvG X T K het s' m' lead Q' E' hl B' F' N' (fun hlt => absurd hle (by omega)) (fun _ hq => by rw [hpp] at hq; cases hq) (fun _ e3 es3 hq mrest' Dt h' tk' v tv hv hm hr hF hN => by
            rw [hpp] at hq; cases hq
            rcases hv with ⟨_, hv⟩ | ⟨rfl, _⟩
            · omega
            · exact h mrest' Dt h' tk' tv (by rw [hpp]; exact hm) hr hF hN)
        rcases Nat.le_one_iff_eq_zero_or_eq_one.mp hl1 with hz | hz
        · rw [hz] at selD
          exact bnextDI2 (P := fun m => m = ML c (ppp (e :: es)) (nH + 1) now tk3 cnt tkc { t2 with b := false } ((L + 1 + 1, ocs) :: (L + 1, ock) :: OT c t0 t1 (e :: es) rs)) (mrest := ML c (e :: es) nH now tk3 cnt tkc t2 ((L + 1 + 1, ocs) :: (L + 1, ock) :: OT c t0 t1 (e :: es) rs)) (W := e2.w) (Ts := t2.T) X T F hrm J.len3 J.rpw hMM NK call (by omega) selD (fun mrest' D d ds nD u' h' tk' hP hp hs hrs' F' N' lt => fin mrest' D d ds nD u' h' tk' hle hP hp hs hrs' F' N' lt) B
        · rw [hz] at selD
          exact bnextDI3 (P := fun m => m = ML c (ppp (e :: es)) (nH + 1) now tk3 cnt tkc { t2 with b := false } ((L + 1 + 1, ocs) :: (L + 1, ock) :: OT c t0 t1 (e :: es) rs)) (mrest := ML c (e :: es) nH now tk3 cnt tkc t2 ((L + 1 + 1, ocs) :: (L + 1, ock) :: OT c t0 t1 (e :: es) rs)) (W := e2.w) (Ts := t2.T) X T F hrm J.len3 J.rpw hMM NK call (by omega) selD (fun mrest' D d ds nD u' h' tk' hP hp hs hrs' F' N' lt => fin mrest' D d ds nD u' h' tk' hle hP hp hs hrs' F' N' lt) B
  · refine bnextB (P := fun m => m = ML c (e :: es) nH now tk3 cnt tkc t2 ((L + 1 + 1, ocs) :: (L + 1, ock) :: OT c t0 t1 (e :: es) rs)) (mrest := ML c (e :: es) nH now tk3 cnt tkc t2 ((L + 1 + 1, ocs) :: (L + 1, ock) :: OT c t0 t1 (e :: es) rs)) (W := e.w) (Ts := TL) X T F hrm J.len3 J.rpw hMM NK (fun s' m' lead Q' E' hl B' F' N' h => pvG X T K het s' m' lead Q' E' hl B' F' N' (fun _ mrest' Dt h' tk' tv hm => h mrest' Dt h' tk' tv hm) (fun hq => absurd hq hle) (fun hq => absurd hq hle)) (by omega) (fun ds hp hs => ?_) (fun mrest' u' h' tk' hP hrs' F' N' => ?_) B
    · obtain ⟨d, ds', rfl, hdw, _, _, _⟩ := split_rows J hp hs
      exact ⟨d, ds', rfl, hdw⟩
    · subst hP
      obtain ⟨r9, hr9, hw9, _, _⟩ := J.ent (.head _ : e ∈ e :: es)
      refine fin18 (nH := nH) (nR := nR) (nM := nM) (tk3 := tk3) (tkc := tkc) X T S2 F' (news_sub N' fun p hp => ?_) (fun ocs' u'' h'' tk'' S3 F3 N3 => hQ _ _ _ _ _ _ _ ⟨rfl, fun h => absurd (h r9 hr9) (by omega)⟩ ⟨_, _, _, _, _, _, _, _, _, _, _, _, _, _, _, _, _, S3, rfl, F3, N3⟩) B
      simp only [LD, ML, OT, List.mem_cons] at hp ⊢
      rcases hp with h | h | h | h | h | h | h | h | h | h | h | h | h | h | h | h | h <;> simp only [h, true_or, or_true]
end Mine
end

section
open PySem PySem.W PyProof.Rows PySem.Calls
set_option maxRecDepth 100000
set_option maxHeartbeats 4000000
namespace Mine
/-- what a turn tells of the rows -/
def Turn (nv now : Int) (rs : List Row3) (now' : Int) (rs' : List Row3) : Prop :=
  (nv = 35986 → now' = now + 1999 ∧ rs' = rs) ∧ (nv = 5 → now' = now ∧ ((∀ r ∈ rs, r.w ≤ now) → rs'.length = rs.length - 1 ∧ ∀ r ∈ rs', r.w ≤ now))
theorem step18 {w : World} {s s₀ : Shared} {h₀ : Heap} {L fa : Addr} {cdv : Value} {mg mb : Str → Option Value} {Q : Flow → Shared → Prop} {E : Value → Shared → Prop}
  {c : Cst} {TL TM T0 d0 T1 d1 T2 d2 : Addr} {now cnt nv : Int} {es : List Ent} {rs : List Row3} {m : Str → Option Value} {tkn : Tok}
  (X : (hd.heap_39 w.params).In h₀) (T : T18 s₀ mg mb h₀) (Rp : Rep18 h₀ c L TL TM T0 d0 T1 d1 T2 d2 now cnt es rs s.heap m) (F : Fr h₀ L s.heap (fun y => if y = Str.ofString "n" then some (.int nv tkn) else m y))
  (hQ : ∀ (now' cnt' : Int) (es' : List Ent) (rs' : List Row3) (h' : Heap) (m' : Str → Option Value) (tk' : Tok), Turn nv now rs now' rs' → Rep18 h₀ c L TL TM T0 d0 T1 d1 T2 d2 now' cnt' es' rs' h' m' → Q .next { s with heap := h', toks := tk' })
  (B : Below callerA h₀ [] h₀) : wpAny (model Challenge.rw_fe0018_01.row.prog w) (callerA.deeper (lawEnv L fa cdv)) (execs loopBody (lawEnv L fa cdv)) Q E s := by
  obtain ⟨R, nH, nR, nM, tk3, tkc, tknow, tkturn, u, t0, t1, t2, u0, u1, u2, ocs, ock, S, rfl, _, N⟩ := Rp
  have S' := S
  obtain ⟨ch, rn, a0, a1, a2, b0, b1, b2, v0, v1, v2, ⟨vs, ds⟩, ⟨vk, dk⟩, pos, J, hxt⟩ := S
  obtain ⟨a3, a4⟩ := a0; subst a3; subst a4
  obtain ⟨a3, a4⟩ := a1; subst a3; subst a4
  obtain ⟨a3, a4⟩ := a2; subst a3; subst a4
  obtain ⟨h1, h2, h3, h4, h5, h6, h7, h8, h9, h10, h11, h12, h13⟩ := ch
  obtain ⟨r1, r2, r3, r4, r5, r6, r7, r8, r9, r10⟩ := rn
  have hin : ∀ p ∈ tup c es rs, p ∈ LD c L TL TM R es nH nR nM now tk3 cnt tkc t0 t1 t2 u0 u1 u2 ocs ock rs := fun p hp => List.mem_append_right [_, _, _, _, _, _, _, _, _, _, _, _, _, _, _, _] hp
  refine head18 (vk := vk) X T F r3 (by omega) (by omega) (fun p hp z hz => ?_) dk N (fun ock' tkk tkx tkkd u' h' tk' dk' F' N' B' => ?_) B
  · cases List.mem_singleton.mp hz
    simp only [ML, OT, List.mem_cons] at hp
    rcases hp with rfl | rfl | rfl | rfl | rfl | rfl | rfl | rfl | rfl | rfl | rfl | hp
    rotate_right
    · exact tup_ne N hin (.tail _ (.tail _ (.tail _ (.tail _ (.head _))))) (.inr ⟨_, dk⟩) (fun p hp => hxt p hp _ (by simp)) p hp
    all_goals (dsimp only [Cst.hp, Cst.mi, Cst.md, Cst.ci, Cst.cd, Tsk.ti, Tsk.di]; show @Ne Nat _ _; omega)
  · have S2 : Sit c L TL TM t0.T t0.d t1.T t1.d t2.T t2.d R now cnt es rs t0 t1 t2 u0 u1 u2 ocs ock' := { S' with dk := ⟨_, dk'⟩ }
    have x0 : 0 ≤ (nv.fdiv 18).fmod 2000 ∧ (nv.fdiv 18).fmod 2000 ≤ 1999 := by
      have g1 := Int.fmod_nonneg_of_pos (nv.fdiv 18) (show (0:Int) < 2000 by decide)
      have g2 := Int.fmod_lt_of_pos (nv.fdiv 18) (show (0:Int) < 2000 by decide)
      omega
    have k0 : (nv.fdiv 6).fmod 3 = 0 ∨ (nv.fdiv 6).fmod 3 = 1 ∨ (nv.fdiv 6).fmod 3 = 2 := by
      have g1 := Int.fmod_nonneg_of_pos (nv.fdiv 6) (show (0:Int) < 3 by decide)
      have g2 := Int.fmod_lt_of_pos (nv.fdiv 6) (show (0:Int) < 3 by decide)
      omega
    have d0' : nv.fmod 6 = 0 ∨ nv.fmod 6 = 1 ∨ nv.fmod 6 = 2 ∨ nv.fmod 6 = 3 ∨ nv.fmod 6 = 4 ∨ nv.fmod 6 = 5 := by
      have g1 := Int.fmod_nonneg_of_pos nv (show (0:Int) < 6 by decide)
      have g2 := Int.fmod_lt_of_pos nv (show (0:Int) < 6 by decide)
      omega
    have n5 : nv = 5 → nv.fmod 6 = 5 := fun h => by subst h; decide
    have n4 : nv = 35986 → nv.fmod 6 = 4 ∧ (nv.fdiv 18).fmod 2000 = 1999 := fun h => by subst h; decide
    generalize (nv.fdiv 18).fmod 2000 = x at F' x0 n4
    generalize (nv.fdiv 6).fmod 3 = k at dk' k0
    generalize nv.fmod 6 = kd at F' d0' n5 n4
    have no : ∀ {now' rs'}, kd ≠ 4 → kd ≠ 5 → Turn nv now rs now' rs' := fun h4 h5 => ⟨fun h => absurd (n4 h).1 h4, fun h => absurd (n5 h) h5⟩
    rcases d0' with rfl | rfl | rfl | rfl | rfl | rfl
    · rcases k0 with rfl | rfl | rfl
      · exact stp00 X T S2 x0 F' N' dk' (fun _ _ _ _ _ _ hR => hQ _ _ _ _ _ _ _ (no (by decide) (by decide)) hR) B
      · exact stp01 X T S2 x0 F' N' dk' (fun _ _ _ _ _ _ hR => hQ _ _ _ _ _ _ _ (no (by decide) (by decide)) hR) B
      · exact stp02 X T S2 x0 F' N' dk' (fun _ _ _ _ _ _ hR => hQ _ _ _ _ _ _ _ (no (by decide) (by decide)) hR) B
    · rcases k0 with rfl | rfl | rfl
      · exact stp10 X T S2 x0 F' N' dk' (fun _ _ _ _ _ _ hR => hQ _ _ _ _ _ _ _ (no (by decide) (by decide)) hR) B
      · exact stp11 X T S2 x0 F' N' dk' (fun _ _ _ _ _ _ hR => hQ _ _ _ _ _ _ _ (no (by decide) (by decide)) hR) B
      · exact stp12 X T S2 x0 F' N' dk' (fun _ _ _ _ _ _ hR => hQ _ _ _ _ _ _ _ (no (by decide) (by decide)) hR) B
    · rcases k0 with rfl | rfl | rfl
      · rcases v0 with ⟨e1, e2⟩ | ⟨W, t, t', e1, e2, e3⟩
        · exact stpN0 X T S2 x0 F' N' e1 e2 dk' (fun _ _ _ _ _ _ _ _ hR => hQ _ _ _ _ _ _ _ (no (by decide) (by decide)) hR) B
        · exact stp20 X T S2 x0 F' N' e1 e2 e3 dk' (fun _ _ _ _ _ _ hR => hQ _ _ _ _ _ _ _ (no (by decide) (by decide)) hR) B
      · rcases v1 with ⟨e1, e2⟩ | ⟨W, t, t', e1, e2, e3⟩
        · exact stpN1 X T S2 x0 F' N' e1 e2 dk' (fun _ _ _ _ _ _ _ _ hR => hQ _ _ _ _ _ _ _ (no (by decide) (by decide)) hR) B
        · exact stp21 X T S2 x0 F' N' e1 e2 e3 dk' (fun _ _ _ _ _ _ hR => hQ _ _ _ _ _ _ _ (no (by decide) (by decide)) hR) B
      · rcases v2 with ⟨e1, e2⟩ | ⟨W, t, t', e1, e2, e3⟩
        · exact stpN2 X T S2 x0 F' N' e1 e2 dk' (fun _ _ _ _ _ _ _ _ hR => hQ _ _ _ _ _ _ _ (no (by decide) (by decide)) hR) B
        · exact stp22 X T S2 x0 F' N' e1 e2 e3 dk' (fun _ _ _ _ _ _ hR => hQ _ _ _ _ _ _ _ (no (by decide) (by decide)) hR) B
    · rcases k0 with rfl | rfl | rfl
      · exact stpS0 X T S2 x0 F' N' dk' (fun _ _ _ _ _ _ _ _ hR => hQ _ _ _ _ _ _ _ (no (by decide) (by decide)) hR) B
      · exact stpS1 X T S2 x0 F' N' dk' (fun _ _ _ _ _ _ _ _ hR => hQ _ _ _ _ _ _ _ (no (by decide) (by decide)) hR) B
      · exact stpS2 X T S2 x0 F' N' dk' (fun _ _ _ _ _ _ _ _ hR => hQ _ _ _ _ _ _ _ (no (by decide) (by decide)) hR) B
    · exact stpP (tkk := tkk) X T S2 x0 F' N' (fun _ _ _ _ _ _ _ hp hR => hQ _ _ _ _ _ _ _ ⟨fun h => by rw [← (n4 h).2]; exact hp, fun h => absurd (n5 h) (by decide)⟩ hR) B
    · have fin : ∀ {now' rs'}, (now' = now ∧ ((∀ r ∈ rs, r.w ≤ now) → rs'.length = rs.length - 1 ∧ ∀ r ∈ rs', r.w ≤ now)) → Turn nv now rs now' rs' := fun h => ⟨fun h' => absurd (n4 h').1 (by decide), fun _ => h⟩
      cases es with
      | nil =>
        have hz : rs = [] := List.length_eq_zero_iff.mp J.len.symm
        exact stpGA (tkk := tkk) X T S2 x0 F' N' rfl hz (fun _ _ _ _ _ _ _ hp hR => hQ _ _ _ _ _ _ _ (fin hp) hR) B
      | cons e es =>
        obtain ⟨r, hr, _, _, et⟩ := J.ent (.head _ : e ∈ e :: es)
        rcases J.kn r hr with hk | hk | hk
        · exact stpG0 (tkk := tkk) X T S2 x0 F' N' (by rw [← et, hk]; rfl) (fun _ _ _ _ _ _ _ hp hR => hQ _ _ _ _ _ _ _ (fin hp) hR) B
        · exact stpG1 (tkk := tkk) X T S2 x0 F' N' (by rw [← et, hk]; rfl) (fun _ _ _ _ _ _ _ hp hR => hQ _ _ _ _ _ _ _ (fin hp) hR) B
        · exact stpG2 (tkk := tkk) X T S2 x0 F' N' (by rw [← et, hk]; rfl) (fun _ _ _ _ _ _ _ hp hR => hQ _ _ _ _ _ _ _ (fin hp) hR) B
end Mine
end

section
open PySem PySem.W PyProof.Rows PySem.Calls
set_option maxRecDepth 100000
set_option maxHeartbeats 4000000
namespace Mine
/-- how far the last five numbers have come -/
def Ph (n i : Nat) (now : Int) (rs : List Row3) : Prop := n + 1 ≤ i → (∀ r ∈ rs, r.w ≤ now) ∧ rs.length ≤ 3 - (i - (n + 1))
theorem ph_step {tk : Int → Addr} {ns : List Int} {i : Nat} {nv now now' turn : Int} {es : List Ent} {rs rs' : List Row3} (J : Jn tk now turn es rs) (hn : (ns ++ [35986, 5, 5, 5, 5])[i]? = some nv) (P : Ph ns.length i now rs) (t : Turn nv now rs now' rs') : Ph ns.length (i + 1) now' rs' := by
  intro hi
  rw [List.getElem?_append_right (by omega)] at hn
  rcases Nat.lt_or_ge (i - ns.length) 1 with h | h
  · have e : i - ns.length = 0 := by omega
    rw [e] at hn
    have e2 : nv = 35986 := by simpa using hn.symm
    obtain ⟨rfl, rfl⟩ := t.1 e2
    refine ⟨J.wmax, ?_⟩
    have := J.len3
    omega
  · have e2 : nv = 5 := by
      generalize i - ns.length = j at hn h
      rcases j with _ | _ | _ | _ | _ | j
      · omega
      all_goals simp at hn
      all_goals exact hn.symm
    obtain ⟨rfl, h2⟩ := t.2 e2
    obtain ⟨h3, h4⟩ := P (by omega)
    obtain ⟨h5, h6⟩ := h2 h3
    exact ⟨h6, by omega⟩
theorem loop18 {w : World} {s s₀ : Shared} {h₀ : Heap} {L fa : Addr} {cdv : Value} {mg mb : Str → Option Value} {Q : Flow → Shared → Prop} {E : Value → Shared → Prop}
  {c : Cst} {TL TM T0 d0 T1 d1 T2 d2 : Addr} {now cnt : Int} {es : List Ent} {rs : List Row3} {m : Str → Option Value} {D : Addr} {vs : List Value} {ns : List Int} {nD : Nat}
  (X : (hd.heap_39 w.params).In h₀) (T : T18 s₀ mg mb h₀) (B : Below callerA h₀ [] h₀) (hce : c.ext = []) (hh : (callerA.deeper (lawEnv L fa cdv)).handled = none)
  (hI : IntsAre vs (ns ++ [35986, 5, 5, 5, 5])) (hD : s.heap.get? D = some (PySem.W.listOf vs.toArray nD)) (hDL : D ≠ L) (hDn : h₀.get? D = none) (hDm : ∀ a ∈ [TM, L + 1 + 1, L + 1, c.H, c.dM, c.C, d0, d1, d2], D ≠ a)
  (Rp : Rep18 h₀ c L TL TM T0 d0 T1 d1 T2 d2 now cnt es rs s.heap m)
  (hQ : ∀ (now' cnt' : Int) (es' : List Ent) (h' : Heap) (m' : Str → Option Value) (tk' : Tok), Rep18 h₀ c L TL TM T0 d0 T1 d1 T2 d2 now' cnt' es' [] h' m' → Q .next { s with heap := h', toks := tk' }) :
  wpAny (model Challenge.rw_fe0018_01.row.prog w) (callerA.deeper (lawEnv L fa cdv)) (pyIter (.ref D)) (fun it s₂ => LoopAtU Challenge.rw_fe0018_01.row.prog w (callerA.deeper (lawEnv L fa cdv)) h₀ (lawEnv L fa cdv) (Str.ofString "n") loopBody Q E it s₂) E s := by
  obtain ⟨R, nH, nR, nM, tk3, tkc, tknow, tkturn, u, t0, t1, t2, u0, u1, u2, ocs, ock, S, rfl, F, N⟩ := Rp
  have hls : s.heap.IsList D vs.toArray := ⟨_, hD, rfl, _, rfl⟩
  have hlt : D < s.heap.objs.size := Heap.lt_size hD
  have hne : D ≠ s.heap.objs.size := Nat.ne_of_lt hlt
  refine wpAny_pyIter_list hls ?_
  have W := Walks.list (prog := Challenge.rw_fe0018_01.row.prog) (w := w) hh s.heap.objs.size D hne vs.toArray
  have hlen : vs.toArray.size = (ns ++ [35986, 5, 5, 5, 5]).length := by simp [hI.length]
  rw [hlen] at W
  let J' : Nat → (Str → Option Value) → List (Addr × Obj) → Prop := fun i m₁ news₁ => ∃ now cnt es rs R nH nR nM tk3 tkc tknow tkturn u t0 t1 t2 u0 u1 u2 ocs ock, Ph ns.length i now rs ∧ Sit c L TL TM T0 d0 T1 d1 T2 d2 R now cnt es rs t0 t1 t2 u0 u1 u2 ocs ock ∧ m₁ = lawM c.M TL TM R now cnt tknow tkturn u ∧ news₁ = LD c L TL TM R es nH nR nM now tk3 cnt tkc t0 t1 t2 u0 u1 u2 ocs ock rs
  refine ⟨_, _, _, (ns ++ [35986, 5, 5, 5, 5]).length, _, _, _, _, J', rfl, W, ?_, ?_, ?_, ⟨⟨_, Heap.get?_push_size _ rfl, rfl, rfl⟩, hls.at fun o e => Heap.get?_push_of_some _ e⟩, F.push _, (fun p hp => ⟨Heap.get?_push_of_some _ (N p hp).1, (N p hp).2⟩), ⟨now, cnt, es, rs, R, nH, nR, nM, tk3, tkc, tknow, tkturn, u, t0, t1, t2, u0, u1, u2, ocs, ock, fun h => absurd h (by omega), S, rfl, rfl⟩, ?_, ?_⟩
  · intro hm
    rcases List.mem_cons.mp hm with e | hm
    · exact absurd F.ns.lt (e ▸ Nat.lt_irrefl _)
    · exact hDL (List.mem_singleton.mp hm).symm
  · intro b hb
    rw [List.mem_singleton.mp hb]
    exact next_is_new F
  · intro p hp hI
    exact absurd (Heap.lt_size (N p hp).1) ((List.mem_singleton.mp hI) ▸ Nat.lt_irrefl _)
  · rintro i v m₁ news₁ s₁ own hin hP ⟨now, cnt, es, rs, R, nH, nR, nM, tk3, tkc, tknow, tkturn, u, t0, t1, t2, u0, u1, u2, ocs, ock, P, S, rfl, rfl⟩ hoff hown hget hkeep hst F₁ N₁
    obtain ⟨t, hx⟩ := hI.get i ((ns ++ [35986, 5, 5, 5, 5])[i]) (by simp)
    have hv : v = .int ((ns ++ [35986, 5, 5, 5, 5])[i]) t := by
      have hP' : vs[i]? = some v := by simpa using hP
      rw [hx] at hP'; exact (Option.some.inj hP').symm
    subst hv
    have hn : (ns ++ [35986, 5, 5, 5, 5])[i]? = some ((ns ++ [35986, 5, 5, 5, 5])[i]) := by simp
    generalize (ns ++ [35986, 5, 5, 5, 5])[i] = nv at F₁ hn
    have hI0 : h₀.get? s.heap.objs.size = none := next_is_new F
    have hD0 : h₀.get? D = none := hDn
    obtain ⟨⟨oI, hgI, hcI, _⟩, ⟨oD, hgD, _, nd, hdD⟩⟩ := hst
    have mI := hkeep _ (.head _) hI0 oI hgI
    have mD := hkeep _ (.tail _ (.head _)) hD0 oD hgD
    have offI : ∀ a o, (a, o) ∈ LD c L TL TM R es nH nR nM now tk3 cnt tkc t0 t1 t2 u0 u1 u2 ocs ock rs → a ≠ s.heap.objs.size := fun a o h e => hoff _ h (by rw [e]; exact .head _)
    have dR : D ≠ R := ne_of_news N₁ (List.mem_append_left _ mD) (List.mem_append_right own (.head _)) (fun e => by
      have h1 := congrArg Obj.data e
      rw [hdD] at h1
      have h2 : vs.toArray = rrefs rs := by injection h1
      have h3 := congrArg Array.size h2
      have h4 := S.J.len3
      have h5 := hI.length
      simp only [rrefs, List.size_toArray, List.length_map, List.length_append, List.length_cons, List.length_nil] at h3 h5
      omega)
    have hx2 : OwnOff own [TM, L + 1 + 1, L + 1, c.H, c.dM, c.C, d0, d1, d2] := fun p hp b hb => by
      rcases List.mem_cons.mp (hown p hp) with h | h
      · rw [h]
        refine Ne.symm ?_
        simp only [List.mem_cons, List.not_mem_nil, or_false] at hb
        rcases hb with rfl | rfl | rfl | rfl | rfl | rfl | rfl | rfl | rfl
        · exact offI _ _ (.tail _ (.head _))
        · exact offI _ _ (.tail _ (.tail _ (.tail _ (.head _))))
        · exact offI _ _ (.tail _ (.tail _ (.tail _ (.tail _ (.head _)))))
        · exact offI _ (c.hp es nH).2 (by k_mem)
        · exact offI _ (c.md now tk3).2 (by k_mem)
        · exact offI _ (c.ci cnt tkc).2 (by k_mem)
        · rw [← S.a0.2]; exact offI _ (t0.di c.M).2 (by k_mem)
        · rw [← S.a1.2]; exact offI _ (t1.di c.M).2 (by k_mem)
        · rw [← S.a2.2]; exact offI _ (t2.di c.M).2 (by k_mem)
      · rw [List.mem_singleton.mp h]; exact hDm b hb
    have r10 : ∀ p ∈ own, p.1 ≠ R := fun p hp => by
      rcases List.mem_cons.mp (hown p hp) with h | h
      · rw [h]; exact Ne.symm (offI _ _ (.head _))
      · rw [List.mem_singleton.mp h]; exact dR
    have S' : Sit { c with ext := own } L TL TM T0 d0 T1 d1 T2 d2 R now cnt es rs t0 t1 t2 u0 u1 u2 ocs ock := ⟨⟨S.ch.h1, S.ch.h2, S.ch.h3, S.ch.h4, S.ch.h5, S.ch.h6, S.ch.h7, S.ch.h8, S.ch.h9, S.ch.h10, S.ch.h11, S.ch.h12, S.ch.h13⟩, ⟨S.rn.r1, S.rn.r2, S.rn.r3, S.rn.r4, S.rn.r5, S.rn.r6, S.rn.r7, S.rn.r8, S.rn.r9, r10⟩, S.a0, S.a1, S.a2, S.b0, S.b1, S.b2, S.v0, S.v1, S.v2, S.ds, S.dk, S.pos, S.J, hx2⟩
    have N₂ : News h₀ L s₁.heap (LD { c with ext := own } L TL TM R es nH nR nM now tk3 cnt tkc t0 t1 t2 u0 u1 u2 ocs ock rs) := news_sub N₁ (fun p hp => by
      simp only [LD, ML, OT, tup, List.mem_cons, List.mem_append] at hp ⊢
      rcases hp with h | h | h | h | h | h | h | h | h | h | h | h | h | h | h | h | (h | h) | h
      all_goals simp only [h, true_or, or_true])
    have e9 : (fun y => if y = Str.ofString "n" then some (Value.int nv t) else lawM c.M TL TM R now cnt tknow tkturn u y) = lawM c.M TL TM R now cnt tknow tkturn (fun y => if y = Str.ofString "n" then some (Value.int nv t) else lawM c.M TL TM R now cnt tknow tkturn u y) := pinM (by exact rfl) (by exact rfl) (by exact rfl) (by exact rfl) (by exact rfl) (by exact rfl)
    refine step18 (c := { c with ext := own }) (nv := nv) (tkn := t) X T ⟨R, nH, nR, nM, tk3, tkc, tknow, tkturn, _, t0, t1, t2, u0, u1, u2, ocs, ock, S', rfl, fr_of F₁ e9, N₂⟩ (fr_of F₁ ?_) (fun now' cnt' es' rs' h' m' tk' ht hR => ?_) B
    · funext y
      by_cases hy : y = Str.ofString "n"
      · rw [if_pos hy, if_pos hy]
      · rw [if_neg hy]
        have := congrFun e9 y
        rw [if_neg hy] at this
        rw [if_neg hy]; exact this
    · obtain ⟨R2, nH2, nR2, nM2, tk32, tkc2, tknow2, tkturn2, u2', w0, w1, w2, x0, x1, x2, ocs2, ock2, S2, rfl, F2, N2⟩ := hR
      have S3 : Sit c L TL TM T0 d0 T1 d1 T2 d2 R2 now' cnt' es' rs' w0 w1 w2 x0 x1 x2 ocs2 ock2 := ⟨S.ch, ⟨S2.rn.r1, S2.rn.r2, S2.rn.r3, S2.rn.r4, S2.rn.r5, S2.rn.r6, S2.rn.r7, S2.rn.r8, S2.rn.r9, fun p hp => by rw [hce] at hp; cases hp⟩, S2.a0, S2.a1, S2.a2, S2.b0, S2.b1, S2.b2, S2.v0, S2.v1, S2.v2, S2.ds, S2.dk, S2.pos, S2.J, fun p hp => by rw [hce] at hp; cases hp⟩
      refine ⟨rfl, h', tk', _, LD c L TL TM R2 es' nH2 nR2 nM2 now' tk32 cnt' tkc2 w0 w1 w2 x0 x1 x2 ocs2 ock2 rs', rfl, F2, ?_, ?_, ⟨now', cnt', es', rs', R2, nH2, nR2, nM2, tk32, tkc2, tknow2, tkturn2, u2', w0, w1, w2, x0, x1, x2, ocs2, ock2, ph_step S.J hn P ht, S3, rfl, rfl⟩⟩
      · refine news_sub N2 fun p hp => ?_
        simp only [LD, ML, OT, tup, hce, List.append_nil, List.mem_cons, List.mem_append] at hp ⊢
        rcases hp with h | h | h | h | h | h | h | h | h | h | h | h | h | h | h | h | h | h | h
        all_goals simp only [h, true_or, or_true]
      · intro p hp hw
        have hw' := List.mem_singleton.mp hw
        have st : ∀ a o, (a, o) ∈ LD c L TL TM R es nH nR nM now tk3 cnt tkc t0 t1 t2 u0 u1 u2 ocs ock rs → p.1 = a → False := fun a o h e => offI a o h (e.symm.trans hw')
        have q0 := S.a0; have q1 := S.a1; have q2 := S.a2
        have p0 := S2.a0; have p1 := S2.a1; have p2 := S2.a2
        simp only [LD, ML, OT, List.mem_cons] at hp
        rcases hp with h | h | h | h | h | h | h | h | h | h | h | h | h | h | h | h | h
        · exact S2.rn.r10 _ mI (by rw [← hw', h])
        · exact st TM _ (.tail _ (.head _)) (by rw [h])
        · exact st TL _ (.tail _ (.tail _ (.head _))) (by rw [h])
        · exact st (L + 1 + 1) _ (.tail _ (.tail _ (.tail _ (.head _)))) (by rw [h])
        · exact st (L + 1) _ (.tail _ (.tail _ (.tail _ (.tail _ (.head _))))) (by rw [h])
        · exact st c.H (c.hp es nH).2 (by k_mem) (by rw [h])
        · exact st c.M (c.mi).2 (by k_mem) (by rw [h])
        · exact st c.dM (c.md now tk3).2 (by k_mem) (by rw [h])
        · exact st t0.T t0.ti.2 (by k_mem) (by rw [h]; exact p0.1.trans q0.1.symm)
        · exact st t0.d (t0.di c.M).2 (by k_mem) (by rw [h]; exact p0.2.trans q0.2.symm)
        · exact st c.C (c.ci cnt tkc).2 (by k_mem) (by rw [h])
        · exact st c.dC (c.cd).2 (by k_mem) (by rw [h])
        · exact st t1.T t1.ti.2 (by k_mem) (by rw [h]; exact p1.1.trans q1.1.symm)
        · exact st t1.d (t1.di c.M).2 (by k_mem) (by rw [h]; exact p1.2.trans q1.2.symm)
        · exact st t2.T t2.ti.2 (by k_mem) (by rw [h]; exact p2.1.trans q2.1.symm)
        · exact st t2.d (t2.di c.M).2 (by k_mem) (by rw [h]; exact p2.2.trans q2.2.symm)
        · rcases tup_cases h with ⟨e, he, rfl⟩ | ⟨r, hr, rfl⟩ | h
          · refine ne_of_news N2 (List.mem_append_right [_, _, _, _, _, _, _, _, _, _, _, _, _, _, _, _] (tup_e (c := { c with ext := own }) he)) (List.mem_append_right [_, _, _, _, _, _, _, _, _, _, _, _, _, _, _, _] (tup_x (c := { c with ext := own }) (es := es') (rs := rs') mI)) (ne_cls (by rw [hcI]; simp)) hw'
          · refine ne_of_news N2 (List.mem_append_right [_, _, _, _, _, _, _, _, _, _, _, _, _, _, _, _] (tup_r (c := { c with ext := own }) hr)) (List.mem_append_right [_, _, _, _, _, _, _, _, _, _, _, _, _, _, _, _] (tup_x (c := { c with ext := own }) (es := es') (rs := rs') mI)) (ne_cls (by rw [hcI]; simp)) hw'
          · rw [hce] at h; cases h
  · rintro h' tk' m' news' F' N' _ ⟨now, cnt, es, rs, R, nH, nR, nM, tk3, tkc, tknow, tkturn, u, t0, t1, t2, u0, u1, u2, ocs, ock, P, S, rfl, rfl⟩
    have h1 := (P (by simp)).2
    have hz : rs = [] := List.length_eq_zero_iff.mp (by simp only [List.length_append, List.length_cons, List.length_nil] at h1; omega)
    subst hz
    exact hQ now cnt es h' _ tk' ⟨_, _, _, _, _, _, _, _, _, _, _, _, _, _, _, _, _, S, rfl, F', N'⟩
end Mine
end

section
open PySem PySem.W PyProof.Rows PySem.Calls
namespace Mine
local macro_rules | `(tactic| walk_at "idle line 0") => `(tactic| fail "idle")
local macro_rules | `(tactic| k_room) => `(tactic| ((try simp only [depth_mark, depth_under_make, depth_under_kw, depth_in1, depth_deeper, depth_caller, recursionLimit]); omega))
local macro_rules | `(tactic| k_units) => `(tactic| ((try simp only [cLine, units_in1, units_deeper, Around.mark_units, units_caller]); omega))
local macro_rules | `(tactic| walk_at "call ref") => `(tactic| (k_here; (with_reducible show wpAny _ _ (call (Value.ref 234) _) _ _ _); refine stop_of ?_))
def retStmt : Stmt := lawBody.getD 9 (.Pass default)
set_option maxRecDepth 100000 in
set_option maxHeartbeats 8000000 in
theorem ret18 {w : World} {s s₀ : Shared} {h₀ : Heap} {L fa : Addr} {cdv : Value} {mg mb : Str → Option Value} {Q : Flow → Shared → Prop} {E : Value → Shared → Prop}
  {c : Cst} {TL TM T0 d0 T1 d1 T2 d2 : Addr} {now cnt : Int} {es : List Ent} {m : Str → Option Value}
  (X : (hd.heap_39 w.params).In h₀) (T : T18 s₀ mg mb h₀) (B : Below callerA h₀ [] h₀)
  (Rp : Rep18 h₀ c L TL TM T0 d0 T1 d1 T2 d2 now cnt es [] s.heap m)
  (hQ : ∀ (h' : Heap) (m' : Str → Option Value) (tk' : Tok), Fr h₀ L h' m' → Q (.ret (.bool true)) { s with heap := h', toks := tk' }) :
  wpAny (model Challenge.rw_fe0018_01.row.prog w) (callerA.deeper (lawEnv L fa cdv)) (exec retStmt (lawEnv L fa cdv)) Q E s := by
  obtain ⟨R, nH, nR, nM, tk3, tkc, tknow, tkturn, u, t0, t1, t2, u0, u1, u2, ocs, ock, S, rfl, F, N⟩ := Rp
  have hes : es = [] := List.length_eq_zero_iff.mp (S.J.len)
  subst hes
  have X0 := X
  have N0 := news_sub N (l' := c.mi :: c.md now tk3 :: LD c L TL TM R [] nH nR nM now tk3 cnt tkc t0 t1 t2 u0 u1 u2 ocs ock []) (fun p hp => by
    rcases List.mem_cons.mp hp with rfl | hp
    · k_mem
    · rcases List.mem_cons.mp hp with rfl | hp
      · k_mem
      · exact hp)
  clear N
  unfold LD ML OT tup at N0
  generalize (List.map (fun e : Ent => (e.q, e.obj)) [] ++ List.map (fun r : Row3 => (r.q, r.obj)) [] ++ c.ext) = rest at N0
  dsimp only [Cst.hp, Cst.mi, Cst.md, Cst.ci, Cst.cd, Tsk.ti, Tsk.di] at N0
  revert X; k_fill; intro X
  dsimp only [retStmt, lawEnv, lawScope, lawBody, lawDef, Challenge.pw_fe0018_01, List.getLastD, List.getLast?, List.getLast, List.getD, List.getElem?_cons_succ, List.getElem?_cons_zero, Option.getD, List.drop]
  try k_fold
  k_steps
  unfold Stop
  (rename Fr _ _ _ _ => F5); (rename News _ _ _ _ => N5)
  refine gnt0 (rest := [(R, PySem.W.listOf (rrefs []) nR)]) (by decide) (by decide) rfl rfl B X0 T F5 (news_sub N5 (l' := c.hp [] nH :: c.mi :: c.md now tk3 :: [(R, PySem.W.listOf (rrefs []) nR)]) (fun p hp => ?_)) fun D h1 tk1 F6 N6 => ?_
  · simp only [List.mem_cons, List.not_mem_nil, or_false] at hp
    rcases hp with rfl | rfl | rfl | rfl <;> k_mem
  clear F5 N5
  k_steps
  (rename Fr _ _ _ _ => F9)
  exact hQ _ _ _ F9
end Mine
end

section
open PySem PySem.W PyProof.Rows PySem.Calls
set_option maxRecDepth 100000
set_option maxHeartbeats 4000000
namespace Mine
theorem jn_nil {tk : Int → Addr} : Jn tk 0 0 [] [] where
  perm := .nil
  hmin := by intro e es' h; cases h
  kn := by intro r h; cases h
  knd := .nil
  clt := by intro r h; cases h
  cnd := .nil
  wmax := by intro r h; cases h
/-- from the prologue's ledger to the end of the law -/
theorem glue18 {w : World} {s s₀ : Shared} {h₀ : Heap} {L fa : Addr} {cdv : Value} {mg mb : Str → Option Value} {Q qk : Flow → Shared → Prop} {ek : Value → Shared → Prop}
  {M dM H C dC T0 d0 T1 d1 T2 d2 TL TM R D : Addr} {hs1 hs2 hs3 a1 a2 a3 b1 b2 b3 c1 c2 c3 : Int} {tk1 tk2 tk3 tk4 tkc stp e1 e2 e3 f1 f2 f3 g1 g2 g3 t4 t4' tknow tkturn : Tok} {nH nR nM nD : Nat} {ocs ock : Obj}
  {m : Str → Option Value} {news : List (Addr × Obj)} {vs : List Value} {ns : List Int}
  (X : (hd.heap_39 w.params).In h₀) (T : T18 s₀ mg mb h₀) (B : Below callerA h₀ [] h₀) (hh : (callerA.deeper (lawEnv L fa cdv)).handled = none)
  (F : Fr h₀ L s.heap m) (N : News h₀ L s.heap news)
  (k1 : m (Str.ofString "manager") = some (.ref M)) (k2 : m (Str.ofString "tasks") = some (.ref TL)) (k3 : m (Str.ofString "times") = some (.ref TM)) (k4 : m (Str.ofString "rows") = some (.ref R)) (k5 : m (Str.ofString "now") = some (.int 0 tknow)) (k6 : m (Str.ofString "turn") = some (.int 0 tkturn))
  (m1 : (TL, PySem.W.listOf #[.ref T0, .ref T1, .ref T2] 0) ∈ news) (m2 : (TM, PySem.W.listOf #[.none, .none, .int 4 t4] nM) ∈ news) (m3 : (R, PySem.W.listOf #[] nR) ∈ news)
  (m4 : (T0, instObj 123 d0) ∈ news) (m5 : (T1, instObj 123 d1) ∈ news) (m6 : (T2, instObj 123 d2) ∈ news)
  (m7 : (d0, dictOf [⟨a1, .str (Str.ofString "taskTime") e1, .none⟩, ⟨a2, .str (Str.ofString "isScheduled") e2, .bool false⟩, ⟨a3, .str (Str.ofString "taskManager") e3, .ref M⟩] 3) ∈ news)
  (m8 : (d1, dictOf [⟨b1, .str (Str.ofString "taskTime") f1, .none⟩, ⟨b2, .str (Str.ofString "isScheduled") f2, .bool false⟩, ⟨b3, .str (Str.ofString "taskManager") f3, .ref M⟩] 3) ∈ news)
  (m9 : (d2, dictOf [⟨c1, .str (Str.ofString "taskTime") g1, .int 4 t4'⟩, ⟨c2, .str (Str.ofString "isScheduled") g2, .bool false⟩, ⟨c3, .str (Str.ofString "taskManager") g3, .ref M⟩] 3) ∈ news)
  (m10 : (M, instObj 244 dM) ∈ news)
  (m11 : (dM, dictOf [⟨hs1, .str (Str.ofString "tasks") tk1, .ref H⟩, ⟨hs2, .str (Str.ofString "now") tk2, .int 0 tk3⟩, ⟨hs3, .str (Str.ofString "counter") tk4, .ref C⟩] 3) ∈ news)
  (m12 : (H, PySem.W.listOf #[] nH) ∈ news) (m13 : (C, cntObj dC 0 tkc stp) ∈ news) (m14 : (dC, dictOf [] 0) ∈ news)
  (m15 : (L + 1 + 1, ocs) ∈ news) (m16 : (L + 1, ock) ∈ news) (ds : ∃ v, ocs.data = .cell v) (dk : ∃ v, ock.data = .cell v)
  (m17 : (D, PySem.W.listOf vs.toArray nD) ∈ news) (hI : IntsAre vs (ns ++ [35986, 5, 5, 5, 5]))
  (l1 : @LT.lt Nat _ (L + 1 + 1) dM) (l2 : @LT.lt Nat _ dM M) (l3 : @LT.lt Nat _ M H) (l4 : @LT.lt Nat _ H dC) (l5 : @LT.lt Nat _ dC C) (l6 : @LT.lt Nat _ C d0) (l7 : @LT.lt Nat _ d0 T0) (l8 : @LT.lt Nat _ T0 d1) (l9 : @LT.lt Nat _ d1 T1) (l10 : @LT.lt Nat _ T1 d2) (l11 : @LT.lt Nat _ d2 T2) (l12 : @LT.lt Nat _ T2 TL) (l13 : @LT.lt Nat _ TL TM)
  (l14 : @LT.lt Nat _ TM R) (l15 : @LT.lt Nat _ R D)
  (hq : ∀ s', wpAny (model Challenge.rw_fe0018_01.row.prog w) (callerA.deeper (lawEnv L fa cdv)) (execs [retStmt] (lawEnv L fa cdv)) qk ek s' → Q .next s')
  (hQ : ∀ (h' : Heap) (m' : Str → Option Value) (tk' : Tok), Fr h₀ L h' m' → qk (.ret (.bool true)) { s with heap := h', toks := tk' }) :
  wpAny (model Challenge.rw_fe0018_01.row.prog w) (callerA.deeper (lawEnv L fa cdv)) (pyIter (.ref D)) (fun it s₂ => LoopAtU Challenge.rw_fe0018_01.row.prog w (callerA.deeper (lawEnv L fa cdv)) h₀ (lawEnv L fa cdv) (Str.ofString "n") loopBody Q ek it s₂) ek s := by
  refine loop18 (c := ⟨M, dM, H, C, dC, hs1, hs2, hs3, tk1, tk2, tk4, stp, []⟩) (TL := TL) (TM := TM) (T0 := T0) (d0 := d0) (T1 := T1) (d1 := d1) (T2 := T2) (d2 := d2) (now := 0) (cnt := 0) (es := []) (rs := []) (m := lawM M TL TM R 0 0 tknow tkturn m) X T B rfl hh hI (N.get m17) (N _ m17).2.1 (N _ m17).2.2 (fun a ha => ?_)
    ⟨R, nH, nR, nM, tk3, tkc, tknow, tkturn, m, ⟨T0, d0, a1, a2, a3, e1, e2, e3, .none, false⟩, ⟨T1, d1, b1, b2, b3, f1, f2, f3, .none, false⟩, ⟨T2, d2, c1, c2, c3, g1, g2, g3, .int 4 t4', false⟩, .none, .none, .int 4 t4, ocs, ock,
      ⟨⟨l1, l2, l3, l4, l5, l6, l7, l8, l9, l10, l11, l12, l13⟩, ⟨?_, ?_, ?_, ?_, ?_, ?_, ?_, ?_, ?_, fun p hp => by cases hp⟩, ⟨rfl, rfl⟩, ⟨rfl, rfl⟩, ⟨rfl, rfl⟩, rfl, rfl, rfl, .inl ⟨rfl, rfl⟩, .inl ⟨rfl, rfl⟩, .inr ⟨4, t4', t4, rfl, rfl, by decide⟩, ds, dk, by decide, jn_nil, fun p hp => by cases hp⟩, rfl, fr_of F (pinM k1 k2 k3 k4 k5 k6), ?_⟩ (fun now' cnt' es' h' m' tk' Rp => ?_)
  · simp only [List.mem_cons, List.not_mem_nil, or_false] at ha
    rcases ha with rfl | rfl | rfl | rfl | rfl | rfl | rfl | rfl | rfl
    all_goals (show @Ne Nat _ _)
    all_goals omega
  · omega
  · omega
  · omega
  · (show @Ne Nat R H); omega
  · (show @Ne Nat R dM); omega
  · (show @Ne Nat R C); omega
  · omega
  · omega
  · omega
  · refine news_sub N fun p hp => ?_
    simp only [LD, ML, OT, tup, List.mem_cons, List.mem_append, List.not_mem_nil, or_false, List.map_nil] at hp
    rcases hp with rfl | rfl | rfl | rfl | rfl | rfl | rfl | rfl | rfl | rfl | rfl | rfl | rfl | rfl | rfl | rfl
    all_goals assumption
  · refine hq _ (wpAny_execs_cons (ret18 (Q := _) X T B Rp fun h2 m2 tk2 F2 => ?_))
    exact hQ h2 m2 tk2 F2
end Mine
end

section
open PySem PySem.W PyProof.Rows PySem.Calls
namespace Mine
set_option maxRecDepth 100000 in
set_option maxHeartbeats 4000000 in
theorem end18 {s₀ s₁ s' : Shared} {L : Addr} {m : Str → Option Value} {ns : List Int} (F : Fr s₁.heap L s'.heap m) (hg : s'.gens = #[]) (ho : s'.os = s₁.os) :
  GoodW Challenge.rw_fe0018_01.row.claim (classAt s₀.heap) (ExcName.means s₀.heap) [ofPy (PyData.list (List.map PyData.int ns))] s₁ (Except.ok (Flow.ret (Value.bool true))) s' := by
  refine goodW_bool F hg (raisesW_false ?_) ?_ ho
  · wrow_none_raised
  · wrow_post
end Mine
end

section
open PySem PySem.W PyProof.Rows PySem.Calls
namespace Mine
local macro_rules | `(tactic| walk_at "pyIter ref") => `(tactic| (k_here; (with_reducible show wpAny _ _ (pyIter _) (fun _ _ => LoopAtU _ _ _ _ _ _ _ _ _ _ _) _ _); refine stop_of ?_))
set_option maxRecDepth 100000 in
set_option maxHeartbeats 8000000 in
theorem top18 : PySem.Challenge.rw_fe0018_01.Holds := hd (by
  k_go0
  (all_goals try k_fold)
  k_steps
  all_goals unfold Stop
  all_goals (rename Fr _ _ _ _ => F9)
  all_goals (rename News _ _ _ _ => N9)
  · refine' glue18 (ns := [14, 0, 19, 40, 5, 76, 5, 5]) ?Xp1 ?Tp1 ?Bp1 ?hhp1 F9 N9 ?k1p1 ?k2p1 ?k3p1 ?k4p1 ?k5p1 ?k6p1 ?m1p1 ?m2p1 ?m3p1 ?m4p1 ?m5p1 ?m6p1 ?m7p1 ?m8p1 ?m9p1 ?m10p1 ?m11p1 ?m12p1 ?m13p1 ?m14p1 ?m15p1 ?m16p1 ?dsp1 ?dkp1 ?m17p1 ?hIp1 ?l1p1 ?l2p1 ?l3p1 ?l4p1 ?l5p1 ?l6p1 ?l7p1 ?l8p1 ?l9p1 ?l10p1 ?l11p1 ?l12p1 ?l13p1 ?l14p1 ?l15p1 ?hqp1 ?hQp1
    case Xp1 => assumption
    case Tp1 => assumption
    case Bp1 => assumption
    case hhp1 => rfl
    case k1p1 => exact rfl
    case k2p1 => exact rfl
    case k3p1 => exact rfl
    case k4p1 => exact rfl
    case k5p1 => exact rfl
    case k6p1 => exact rfl
    case m1p1 => (repeat (first | exact List.Mem.head _ | apply List.Mem.tail))
    case m2p1 => (repeat (first | exact List.Mem.head _ | apply List.Mem.tail))
    case m3p1 => (repeat (first | exact List.Mem.head _ | apply List.Mem.tail))
    case m4p1 => (repeat (first | exact List.Mem.head _ | apply List.Mem.tail))
    case m5p1 => (repeat (first | exact List.Mem.head _ | apply List.Mem.tail))
    case m6p1 => (repeat (first | exact List.Mem.head _ | apply List.Mem.tail))
    case m7p1 => (repeat (first | exact List.Mem.head _ | apply List.Mem.tail))
    case m8p1 => (repeat (first | exact List.Mem.head _ | apply List.Mem.tail))
    case m9p1 => (repeat (first | exact List.Mem.head _ | apply List.Mem.tail))
    case m10p1 => (repeat (first | exact List.Mem.head _ | apply List.Mem.tail))
    case m11p1 => (repeat (first | exact List.Mem.head _ | apply List.Mem.tail))
    case m12p1 => (repeat (first | exact List.Mem.head _ | apply List.Mem.tail))
    case m13p1 => (repeat (first | exact List.Mem.head _ | apply List.Mem.tail))
    case m14p1 => (repeat (first | exact List.Mem.head _ | apply List.Mem.tail))
    case m15p1 => (repeat (first | exact List.Mem.head _ | apply List.Mem.tail))
    case m16p1 => (repeat (first | exact List.Mem.head _ | apply List.Mem.tail))
    case m17p1 => (repeat (first | exact List.Mem.head _ | apply List.Mem.tail))
    case dsp1 => exact ⟨_, by assumption⟩
    case dkp1 => exact ⟨_, by assumption⟩
    case hIp1 => exact .cons _ _ (.cons _ _ (.cons _ _ (.cons _ _ (.cons _ _ (.cons _ _ (.cons _ _ (.cons _ _ (.cons _ _ (.cons _ _ (.cons _ _ (.cons _ _ (.cons _ _ .nil))))))))))))
    case l1p1 => omega
    case l2p1 => omega
    case l3p1 => omega
    case l4p1 => omega
    case l5p1 => omega
    case l6p1 => omega
    case l7p1 => omega
    case l8p1 => omega
    case l9p1 => omega
    case l10p1 => omega
    case l11p1 => omega
    case l12p1 => omega
    case l13p1 => omega
    case l14p1 => omega
    case l15p1 => omega
    case hqp1 => exact fun s' h => h
    case hQp1 =>
      intro h' m' tk' F'
      repeat (k_unfold; (try dsimp only))
      (refine end18 F' ?hgp1 rfl; (case hgp1 => show Shared.gens _ = _; assumption))
  · refine' glue18 ?Xp2 ?Tp2 ?Bp2 ?hhp2 F9 N9 ?k1p2 ?k2p2 ?k3p2 ?k4p2 ?k5p2 ?k6p2 ?m1p2 ?m2p2 ?m3p2 ?m4p2 ?m5p2 ?m6p2 ?m7p2 ?m8p2 ?m9p2 ?m10p2 ?m11p2 ?m12p2 ?m13p2 ?m14p2 ?m15p2 ?m16p2 ?dsp2 ?dkp2 ?m17p2 ?hIp2 ?l1p2 ?l2p2 ?l3p2 ?l4p2 ?l5p2 ?l6p2 ?l7p2 ?l8p2 ?l9p2 ?l10p2 ?l11p2 ?l12p2 ?l13p2 ?l14p2 ?l15p2 ?hqp2 ?hQp2
    case Xp2 => assumption
    case Tp2 => assumption
    case Bp2 => assumption
    case hhp2 => rfl
    case k1p2 => exact rfl
    case k2p2 => exact rfl
    case k3p2 => exact rfl
    case k4p2 => exact rfl
    case k5p2 => exact rfl
    case k6p2 => exact rfl
    case m1p2 => (repeat (first | exact List.Mem.head _ | apply List.Mem.tail))
    case m2p2 => (repeat (first | exact List.Mem.head _ | apply List.Mem.tail))
    case m3p2 => (repeat (first | exact List.Mem.head _ | apply List.Mem.tail))
    case m4p2 => (repeat (first | exact List.Mem.head _ | apply List.Mem.tail))
    case m5p2 => (repeat (first | exact List.Mem.head _ | apply List.Mem.tail))
    case m6p2 => (repeat (first | exact List.Mem.head _ | apply List.Mem.tail))
    case m7p2 => (repeat (first | exact List.Mem.head _ | apply List.Mem.tail))
    case m8p2 => (repeat (first | exact List.Mem.head _ | apply List.Mem.tail))
    case m9p2 => (repeat (first | exact List.Mem.head _ | apply List.Mem.tail))
    case m10p2 => (repeat (first | exact List.Mem.head _ | apply List.Mem.tail))
    case m11p2 => (repeat (first | exact List.Mem.head _ | apply List.Mem.tail))
    case m12p2 => (repeat (first | exact List.Mem.head _ | apply List.Mem.tail))
    case m13p2 => (repeat (first | exact List.Mem.head _ | apply List.Mem.tail))
    case m14p2 => (repeat (first | exact List.Mem.head _ | apply List.Mem.tail))
    case m15p2 => (repeat (first | exact List.Mem.head _ | apply List.Mem.tail))
    case m16p2 => (repeat (first | exact List.Mem.head _ | apply List.Mem.tail))
    case m17p2 => (repeat (first | exact List.Mem.head _ | apply List.Mem.tail))
    case dsp2 => exact ⟨_, by assumption⟩
    case dkp2 => exact ⟨_, by assumption⟩
    case hIp2 => assumption
    case l1p2 => omega
    case l2p2 => omega
    case l3p2 => omega
    case l4p2 => omega
    case l5p2 => omega
    case l6p2 => omega
    case l7p2 => omega
    case l8p2 => omega
    case l9p2 => omega
    case l10p2 => omega
    case l11p2 => omega
    case l12p2 => omega
    case l13p2 => omega
    case l14p2 => omega
    case l15p2 => omega
    case hqp2 => exact fun s' h => h
    case hQp2 =>
      intro h' m' tk' F'
      repeat (k_unfold; (try dsimp only))
      (refine end18 F' ?hgp2 rfl; (case hgp2 => show Shared.gens _ = _; assumption)))
end Mine
end
theorem PySem.Challenge.cw_fe0018_01_holds : PySem.Challenge.rw_fe0018_01.Holds := by
  exact Mine.top18
