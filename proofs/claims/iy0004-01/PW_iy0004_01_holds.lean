import PyProof.Rows.All
import Wide.All
import OpenK.AllK
import Wide.FinOn
import PySem.Challenge.RW_iy0004_01
set_option Elab.async false
set_option linter.unusedVariables false
set_option linter.unusedSectionVars false
set_option linter.unusedSimpArgs false
namespace Mine
section
open PySem PySem.W PyProof.Rows
set_option maxRecDepth 100000
set_option maxHeartbeats 8000000
open_top hd for PySem.Challenge.rw_iy0004_01
end
-- the head has set the walk's switch; the contracts were walked without it
theorem calm : True := by
  open PySem.W in w_top off
  trivial
-- one line of the walk for them all: it asks the rows «k_with» that stand ahead of each part
local macro_rules | `(tactic| walk_at $s:str) => `(tactic| k_extra $s)
local macro_rules | `(tactic| k_mem) => `(tactic| k_extra "mem")
local macro_rules | `(tactic| k_ne) => `(tactic| k_extra "ne")
local macro_rules | `(tactic| kto_ne) => `(tactic| k_extra "tone")
local macro_rules | `(tactic| ktr_enter) => `(tactic| k_extra "enter")
section
-- LIdx
open PySem PySem.W PySem.Calls PyProof.Rows
/-- a list by places of another one: what lies in it, and that it repeats nothing -/
theorem sub_idx {α : Type} (d : α) (l : List α) (js : List Nat) (n : Nat) (hn : l.length = n) (h : ∀ i, i < n → i ∈ js) : ∀ z, z ∈ l → z ∈ js.map (fun j => l.getD j d) := by
  intro z hz
  obtain ⟨i, hi, e⟩ := List.getElem_of_mem hz
  exact List.mem_map.mpr ⟨i, h i (hn ▸ hi), by rw [List.getD_eq_getElem?_getD, List.getElem?_eq_getElem hi, e]; rfl⟩
theorem in_idx {α : Type} (d : α) (l : List α) (js : List Nat) (n : Nat) (hn : l.length = n) (h : ∀ j ∈ js, j < n) : ∀ z, z ∈ js.map (fun j => l.getD j d) → z ∈ l := by
  intro z hz
  obtain ⟨j, hj, e⟩ := List.mem_map.mp hz
  have hi : j < l.length := hn ▸ h j hj
  rw [← e, List.getD_eq_getElem?_getD, List.getElem?_eq_getElem hi]
  exact List.getElem_mem hi
theorem nodup_idx {α : Type} (d : α) (l : List α) (js : List Nat) (n : Nat) (hn : l.length = n) (h1 : js.Nodup) (h2 : ∀ j ∈ js, j < n) (hl : l.Nodup) : (js.map (fun j => l.getD j d)).Nodup := by
  refine List.pairwise_map.mpr (List.Pairwise.imp_of_mem (fun {a b} ha hb hab => ?_) h1)
  have hi : a < l.length := hn ▸ h2 a ha
  have hj : b < l.length := hn ▸ h2 b hb
  simp only [List.getD_eq_getElem?_getD, List.getElem?_eq_getElem hi, List.getElem?_eq_getElem hj, Option.getD_some]
  have hp := List.pairwise_iff_getElem.mp hl
  rcases Nat.lt_or_gt_of_ne hab with h | h
  · exact hp a b hi hj h
  · exact Ne.symm (hp b a hj hi h)
theorem eq_min {n a k : Nat} (hle : n ≤ a) (hc : n ≤ k) (hmin : min a k ≤ n) : n = min a k := Nat.le_antisymm (Nat.le_min.mpr ⟨hle, hc⟩) hmin
theorem le_toNat {z : Int} {n : Nat} (h : ¬ z < (n : Int)) : n ≤ z.toNat := by lia
theorem min_step {z : Int} {n a k : Nat} (hm : z < (n : Int)) (hz : n = k + 1) : min a z.toNat ≤ k := by lia
theorem lt_of_succ {n k : Nat} (hz : n = k + 1) : k < n := hz ▸ Nat.lt_succ_self k
theorem size_room {n a : Nat} (h : a + n ≤ 4096) : n ≤ PySem.sizeLine := by show _ ≤ 2 ^ 24; lia
theorem size_roomL {n a : Nat} (h : a + n ≤ 4096) : a ≤ PySem.sizeLine := by show _ ≤ 2 ^ 24; lia
theorem big_room {n a k : Nat} (h : a + n ≤ 4096) (e : k = n) : k ≤ 16777216 := by lia
end
section
-- LBase
open PySem PySem.W PySem.Calls PyProof.Rows
set_option genInjectivity false in
set_option genSizeOf false in
/-- the notes of a name's entry in an object's dict: its hash and its key's token -/
structure Nt where
  h : Int
  t : Tok
set_option genInjectivity false in
set_option genSizeOf false in
structure N6 where
  a : Nt
  b : Nt
  c : Nt
  d : Nt
  e : Nt
  f : Nt
noncomputable abbrev nodeD (x : N6) (prev next key value cleanup : Value) : Obj :=
  dictOf [⟨x.a.h, .str (Str.ofString "prev") x.a.t, prev⟩, ⟨x.b.h, .str (Str.ofString "next_key") x.b.t, next⟩, ⟨x.c.h, .str (Str.ofString "key") x.c.t, key⟩,
    ⟨x.d.h, .str (Str.ofString "value") x.d.t, value⟩, ⟨x.e.h, .str (Str.ofString "cleanup") x.e.t, cleanup⟩, ⟨x.f.h, .str (Str.ofString "size") x.f.t, .none⟩] 6
noncomputable abbrev cacheD (x : N6) (c mru lru size stay : Value) : Obj :=
  dictOf [⟨x.a.h, .str (Str.ofString "_cache") x.a.t, c⟩, ⟨x.b.h, .str (Str.ofString "_most_recently_used") x.b.t, mru⟩, ⟨x.c.h, .str (Str.ofString "_least_recently_used") x.c.t, lru⟩,
    ⟨x.d.h, .str (Str.ofString "_max_cache") x.d.t, size⟩, ⟨x.e.h, .str (Str.ofString "_after_cleanup_count") x.e.t, stay⟩] 5
/-- what the caller gets back -/
noncomputable abbrev Back (h₀ : Heap) (L : Addr) (m : Str → Option Value) (s : Shared) (Q : Value → Shared → Prop) (r : Value) (led : List (Addr × Obj)) : Prop :=
  ∀ (h' : Heap) (tk' : Nat), Fr h₀ L h' m → News h₀ L h' led → Q r { s with heap := h', toks := tk' }
noncomputable abbrev Ads (S : List (Addr × Obj)) : List Addr := S.map (·.1)
noncomputable abbrev tup2 (u v : Value) : Obj := { cls := .type "tuple", data := .seq [u, v].toArray }
/-- what a call of the cleaning def does: it lays the pair at the end of the list out -/
noncomputable abbrev GoneSpec (w : World) (p : Program) (loose : List Str) (mean : ExcName → Option Value) (mg mb : Str → Option Value) (ga ol : Addr) (S₀ : List (Addr × Obj)) : Prop :=
  ∀ (dp un : Nat) (gd : Option (List Code)) (cn : Str) (cs : Scope) (a : Addr) (ccd : Value) (cl : List (Str × Addr)) (outer : List Env) (A₀ : Around) (base h₀ : Heap) (L : Addr) (m : Str → Option Value) (s : Shared) (Q E : Value → Shared → Prop)
    (k v : Int) (tk tv : Tok) (us : List Value) (n : Nat) (S : List (Addr × Obj)),
    Below A₀ base outer h₀ → Fr h₀ L s.heap m → (hd.heap_39 w.params).In h₀ → News h₀ L s.heap ((ol, listOf us.toArray n) :: S) → Top p loose mean mg mb h₀ → cs.kind = .function → dp + 1 < recursionLimit →
    (∀ x ∈ S₀, x ∈ S) → (ol :: Ads S).Nodup → us.length ≤ 4096 →
    (∀ (t : Addr) (h' : Heap) (tk' : Nat), Fr h₀ L h' m → News h₀ L h' ((t, tup2 (.int k tk) (.int v tv)) :: (ol, listOf (us ++ [Value.ref t]).toArray (n + 1)) :: S) → (∀ q ∈ (ol, listOf us.toArray n) :: S, q.1 < t) → Q .none { s with heap := h', toks := tk' }) →
    wpAny (model PySem.Challenge.rw_iy0004_01.row.prog w) (ktrTop dp un gd cn cs L a ccd cl outer) (call (.ref ga) [.int k tk, .int v tv]) Q E s
theorem off_tail {S S₀ : List (Addr × Obj)} {q : Addr × Obj} (h : ∀ x ∈ S₀, x ∈ S) : ∀ x ∈ S₀, x ∈ q :: S := fun x hx => List.mem_cons_of_mem _ (h x hx)
theorem lt_ads {led : List (Addr × Obj)} {t : Addr} (h : ∀ q ∈ led, q.1 < t) : ∀ b ∈ Ads led, b < t := fun b hb => by
  obtain ⟨q, hq, rfl⟩ := List.mem_map.mp hb
  exact h q hq
theorem off_ads {S : List (Addr × Obj)} {adr : List Addr} (h : ∀ b ∈ adr, b ∉ Ads S) : OwnOff S adr := fun p hp b hb e => h b hb (e ▸ List.mem_map.mpr ⟨p, hp, rfl⟩)
section
variable {S : List (Addr × Obj)} {a b c d e f : Addr}
theorem nd1 (h : (a :: Ads S).Nodup) : OwnOff S [a] := by
  simp only [List.nodup_cons, List.mem_cons, not_or] at h
  exact off_ads (by simp [List.forall_mem_cons, h, -List.mem_map])
theorem nd2 (h : (a :: b :: Ads S).Nodup) : @Ne Nat a b ∧ OwnOff S [a, b] := by
  simp only [List.nodup_cons, List.mem_cons, not_or] at h
  exact ⟨h.1.1, off_ads (by simp [List.forall_mem_cons, h, -List.mem_map])⟩
theorem nd3 (h : (a :: b :: c :: Ads S).Nodup) : @Ne Nat a b ∧ @Ne Nat a c ∧ @Ne Nat b c ∧ OwnOff S [a, b, c] := by
  simp only [List.nodup_cons, List.mem_cons, not_or] at h
  exact ⟨h.1.1, h.1.2.1, h.2.1.1, off_ads (by simp [List.forall_mem_cons, h, -List.mem_map])⟩
theorem nd4 (h : (a :: b :: c :: d :: Ads S).Nodup) : @Ne Nat a b ∧ @Ne Nat a c ∧ @Ne Nat a d ∧ @Ne Nat b c ∧ @Ne Nat b d ∧ @Ne Nat c d ∧ OwnOff S [a, b, c, d] := by
  simp only [List.nodup_cons, List.mem_cons, not_or] at h
  exact ⟨h.1.1, h.1.2.1, h.1.2.2.1, h.2.1.1, h.2.1.2.1, h.2.2.1.1, off_ads (by simp [List.forall_mem_cons, h, -List.mem_map])⟩
theorem nd5 (h : (a :: b :: c :: d :: e :: Ads S).Nodup) : @Ne Nat a b ∧ @Ne Nat a c ∧ @Ne Nat a d ∧ @Ne Nat a e ∧ @Ne Nat b c ∧ @Ne Nat b d ∧ @Ne Nat b e ∧ @Ne Nat c d ∧ @Ne Nat c e ∧ @Ne Nat d e ∧ OwnOff S [a, b, c, d, e] := by
  simp only [List.nodup_cons, List.mem_cons, not_or] at h
  exact ⟨h.1.1, h.1.2.1, h.1.2.2.1, h.1.2.2.2.1, h.2.1.1, h.2.1.2.1, h.2.1.2.2.1, h.2.2.1.1, h.2.2.1.2.1, h.2.2.2.1.1, off_ads (by simp [List.forall_mem_cons, h, -List.mem_map])⟩
end
noncomputable def AllLtA (t : Addr) : List Addr → Prop
  | [] => True
  | a :: r => @LT.lt Nat _ a t ∧ AllLtA t r
theorem allLtA_of {t : Addr} : ∀ {l : List Addr}, (∀ q ∈ l, q < t) → AllLtA t l
  | [], _ => trivial
  | _ :: _, h => ⟨h _ (.head _), allLtA_of fun q hq => h q (.tail _ hq)⟩
theorem gi_sym {prog : Program} {w : World} {A : Around} {E : Value → Shared → Prop} {s : Shared} {h₀ : Heap} {L d : Addr} {news : List (Addr × Obj)} {o : Obj} {kvs : List (Int × Value)} {k : Int} {t : Tok} {v : Value} {Q : Value → Shared → Prop}
    (N : News h₀ L s.heap news) (hp : (d, o) ∈ news) (hd : o.IsDictOf (intKind prog w) kvs) (hl : valueAt kvs k = some v) (h : Q v { s with toks := s.toks + 1 }) : wpAny (model prog w) A (getItem (.ref d) (.int k t)) Q E s :=
  wpAny_getItem_of (intKind_is prog w k t) (kda_dict N hp hd).mapOf hl h
end
section
-- LAcc
open PySem PySem.W PySem.Calls PyProof.Rows
/-- a ledger, a map by what speaks of it -/
noncomputable abbrev newsOf {h₀ h : Heap} {L : Addr} {led : List (Addr × Obj)} (N : News h₀ L h led) : List (Addr × Obj) := led
noncomputable abbrev mapOf {h₀ h : Heap} {L : Addr} {m : Str → Option Value} (F : Fr h₀ L h m) : Str → Option Value := m
theorem gen_tk {M : Model} {A : Around} {α : Type} {t : Sem α} {Q : α → Shared → Prop} {E : Value → Shared → Prop} {h : Heap} {g d o tk} (H : ∀ tk, wpAny M A t Q E ⟨h, g, d, tk, o⟩) : wpAny M A t Q E ⟨h, g, d, tk, o⟩ := H tk
theorem room9 {d k l : Nat} (j : Nat) (h : d + k < l) (hj : Nat.ble j k = true) : d + j < l := Nat.lt_of_le_of_lt (Nat.add_le_add_left (Nat.le_of_ble_eq_true hj) d) h
/-- the i-th entry of a list; a list with its i-th entry set -/
noncomputable def atN {α : Type} : List α → Nat → Option α
  | [], _ => none
  | a :: r, n => match n with
    | 0 => some a
    | n + 1 => atN r n
noncomputable def setN {α : Type} (b : α) : List α → Nat → List α
  | [], _ => []
  | a :: r, n => match n with
    | 0 => b :: r
    | n + 1 => a :: setN b r n
theorem mem_at {α : Type} {a : α} {l : List α} (i : Nat) (h : atN l i = some a) : a ∈ l := by
  induction l generalizing i with
  | nil => cases h
  | cons b r ih =>
    cases i with
    | zero => cases h; exact .head _
    | succ n => exact .tail _ (ih n h)
theorem mem_dr {α : Type} {a : α} {l : List α} (i : Nat) (h : a ∈ l.drop i) : a ∈ l := List.mem_of_mem_drop h
theorem upd_nd {d : Addr} {o o' : Obj} {l : List (Addr × Obj)} (i : Nat) (hn : (Ads l).Nodup) (h : atN l i = some (d, o)) : Upd d o o' l (setN (d, o') l i) := by
  induction l generalizing i with
  | nil => cases h
  | cons q r ih =>
    have h1 := (List.nodup_cons.mp hn).1
    cases i with
    | zero => cases h; exact .head fun p hp e => h1 (List.mem_map.mpr ⟨p, hp, e⟩)
    | succ n => exact .tail (fun e => h1 (List.mem_map.mpr ⟨_, mem_at n h, e.symm⟩)) (ih n (List.nodup_cons.mp hn).2 h)
theorem updF_nd {d : Addr} {o : Obj} {l : List (Addr × Obj)} (i : Nat) (hn : (Ads l).Nodup) (h : atN l i = some (d, o)) : UpdF d o l (fun o' => setN (d, o') l i) := by
  induction l generalizing i with
  | nil => cases h
  | cons q r ih =>
    have h1 := (List.nodup_cons.mp hn).1
    cases i with
    | zero => cases h; exact .head fun p hp e => h1 (List.mem_map.mpr ⟨p, hp, e⟩)
    | succ n => exact .tail (fun e => h1 (List.mem_map.mpr ⟨_, mem_at n h, e.symm⟩)) (ih n (List.nodup_cons.mp hn).2 h)
theorem nd_new {t : Addr} {l : List (Addr × Obj)} (h : ∀ q ∈ l, q.1 < t) (hn : (Ads l).Nodup) : (t :: Ads l).Nodup :=
  List.nodup_cons.mpr ⟨fun k => absurd (lt_ads h t k) (Nat.lt_irrefl _), hn⟩
theorem nd_new2 {d t : Addr} {l : List (Addr × Obj)} (h : ∀ q ∈ l, q.1 < d) (ht : d < t) (hn : (Ads l).Nodup) : (t :: d :: Ads l).Nodup := by
  refine List.nodup_cons.mpr ⟨fun k => ?_, nd_new h hn⟩
  rcases List.mem_cons.mp k with e | k
  · exact absurd ht (e ▸ Nat.lt_irrefl _)
  · exact absurd (Nat.lt_trans (lt_ads h t k) ht) (Nat.lt_irrefl _)
section
variable {w : World} {A : Around} {h₀ : Heap} {L : Addr} {m : Str → Option Value} {s : Shared} {news news' : List (Addr × Obj)} {E : Value → Shared → Prop} {a d : Addr} {x : N6} {p nx k v c r l z y u : Value} {e : Bool}
  (F : Fr h₀ L s.heap m) (X : (hd.heap_39 w.params).In h₀) (N : News h₀ L s.heap news)
include F X N
theorem tN {Q : Bool → Shared → Prop} (h1 : (a, instObj 39 d) ∈ news) (h2 : (d, nodeD x p nx k v c) ∈ news) (h : Q true s) : wpAny (model PySem.Challenge.rw_iy0004_01.row.prog w) A (truthy (.ref a)) Q E s := by
  revert X; k_fill; intro X
  exact truthy_K0 F X (InstAt.of_news N h1 h2) (by k_is) (by k_is) h
theorem gN_p {Q : Value → Shared → Prop} (h1 : (a, instObj 39 d) ∈ news) (h2 : (d, nodeD x p nx k v c) ∈ news) (hv : handedIn p = true) (h : Q p { s with toks := s.toks + 1 }) :
    wpAny (model PySem.Challenge.rw_iy0004_01.row.prog w) A (getAttr (.ref a) (Str.ofString "prev") e) Q E s := by
  revert X; k_fill; intro X
  exact get_own F X (InstAt.of_news N h1 h2) (by k_is) (by k_is) (by k_is) (by k_is) (by k_get) hv h
theorem gN_nx {Q : Value → Shared → Prop} (h1 : (a, instObj 39 d) ∈ news) (h2 : (d, nodeD x p nx k v c) ∈ news) (hv : handedIn nx = true) (h : Q nx { s with toks := s.toks + 1 }) :
    wpAny (model PySem.Challenge.rw_iy0004_01.row.prog w) A (getAttr (.ref a) (Str.ofString "next_key") e) Q E s := by
  revert X; k_fill; intro X
  exact get_own F X (InstAt.of_news N h1 h2) (by k_is) (by k_is) (by k_is) (by k_is) (by k_get) hv h
theorem gN_k {Q : Value → Shared → Prop} (h1 : (a, instObj 39 d) ∈ news) (h2 : (d, nodeD x p nx k v c) ∈ news) (hv : handedIn k = true) (h : Q k { s with toks := s.toks + 1 }) :
    wpAny (model PySem.Challenge.rw_iy0004_01.row.prog w) A (getAttr (.ref a) (Str.ofString "key") e) Q E s := by
  revert X; k_fill; intro X
  exact get_own F X (InstAt.of_news N h1 h2) (by k_is) (by k_is) (by k_is) (by k_is) (by k_get) hv h
theorem gN_v {Q : Value → Shared → Prop} (h1 : (a, instObj 39 d) ∈ news) (h2 : (d, nodeD x p nx k v c) ∈ news) (hv : handedIn v = true) (h : Q v { s with toks := s.toks + 1 }) :
    wpAny (model PySem.Challenge.rw_iy0004_01.row.prog w) A (getAttr (.ref a) (Str.ofString "value") e) Q E s := by
  revert X; k_fill; intro X
  exact get_own F X (InstAt.of_news N h1 h2) (by k_is) (by k_is) (by k_is) (by k_is) (by k_get) hv h
theorem gN_c {Q : Value → Shared → Prop} (h1 : (a, instObj 39 d) ∈ news) (h2 : (d, nodeD x p nx k v c) ∈ news) (hv : handedIn c = true) (h : Q c { s with toks := s.toks + 1 }) :
    wpAny (model PySem.Challenge.rw_iy0004_01.row.prog w) A (getAttr (.ref a) (Str.ofString "cleanup") e) Q E s := by
  revert X; k_fill; intro X
  exact get_own F X (InstAt.of_news N h1 h2) (by k_is) (by k_is) (by k_is) (by k_is) (by k_get) hv h
theorem gC_c {Q : Value → Shared → Prop} (h1 : (a, instObj 175 d) ∈ news) (h2 : (d, cacheD x c r l z y) ∈ news) (hv : handedIn c = true) (h : Q c { s with toks := s.toks + 1 }) :
    wpAny (model PySem.Challenge.rw_iy0004_01.row.prog w) A (getAttr (.ref a) (Str.ofString "_cache") e) Q E s := by
  revert X; k_fill; intro X
  exact get_own F X (InstAt.of_news N h1 h2) (by k_is) (by k_is) (by k_is) (by k_is) (by k_get) hv h
theorem gC_r {Q : Value → Shared → Prop} (h1 : (a, instObj 175 d) ∈ news) (h2 : (d, cacheD x c r l z y) ∈ news) (hv : handedIn r = true) (h : Q r { s with toks := s.toks + 1 }) :
    wpAny (model PySem.Challenge.rw_iy0004_01.row.prog w) A (getAttr (.ref a) (Str.ofString "_most_recently_used") e) Q E s := by
  revert X; k_fill; intro X
  exact get_own F X (InstAt.of_news N h1 h2) (by k_is) (by k_is) (by k_is) (by k_is) (by k_get) hv h
theorem gC_l {Q : Value → Shared → Prop} (h1 : (a, instObj 175 d) ∈ news) (h2 : (d, cacheD x c r l z y) ∈ news) (hv : handedIn l = true) (h : Q l { s with toks := s.toks + 1 }) :
    wpAny (model PySem.Challenge.rw_iy0004_01.row.prog w) A (getAttr (.ref a) (Str.ofString "_least_recently_used") e) Q E s := by
  revert X; k_fill; intro X
  exact get_own F X (InstAt.of_news N h1 h2) (by k_is) (by k_is) (by k_is) (by k_is) (by k_get) hv h
theorem gC_z {Q : Value → Shared → Prop} (h1 : (a, instObj 175 d) ∈ news) (h2 : (d, cacheD x c r l z y) ∈ news) (hv : handedIn z = true) (h : Q z { s with toks := s.toks + 1 }) :
    wpAny (model PySem.Challenge.rw_iy0004_01.row.prog w) A (getAttr (.ref a) (Str.ofString "_max_cache") e) Q E s := by
  revert X; k_fill; intro X
  exact get_own F X (InstAt.of_news N h1 h2) (by k_is) (by k_is) (by k_is) (by k_is) (by k_get) hv h
theorem gC_y {Q : Value → Shared → Prop} (h1 : (a, instObj 175 d) ∈ news) (h2 : (d, cacheD x c r l z y) ∈ news) (hv : handedIn y = true) (h : Q y { s with toks := s.toks + 1 }) :
    wpAny (model PySem.Challenge.rw_iy0004_01.row.prog w) A (getAttr (.ref a) (Str.ofString "_after_cleanup_count") e) Q E s := by
  revert X; k_fill; intro X
  exact get_own F X (InstAt.of_news N h1 h2) (by k_is) (by k_is) (by k_is) (by k_is) (by k_get) hv h
theorem sN_p {Q : Unit → Shared → Prop} (h1 : (a, instObj 39 d) ∈ news) (h2 : (d, nodeD x p nx k v c) ∈ news) (U : Upd d (nodeD x p nx k v c) (nodeD x u nx k v c) news news') (h : ∀ h', Fr h₀ L h' m → News h₀ L h' news' → Q () { s with heap := h', toks := s.toks + 2 }) :
    wpAny (model PySem.Challenge.rw_iy0004_01.row.prog w) A (setAttr (.ref a) (Str.ofString "prev") u) Q E s := by
  revert X; k_fill; intro X
  exact set_dict F X N (InstAt.of_news N h1 h2) rfl (by k_is) (by k_is) (by k_is) (by k_is) (by k_get) (by k_put) U (Nat.le_of_ble_eq_true rfl) h
theorem sN_nx {Q : Unit → Shared → Prop} (h1 : (a, instObj 39 d) ∈ news) (h2 : (d, nodeD x p nx k v c) ∈ news) (U : Upd d (nodeD x p nx k v c) (nodeD x p u k v c) news news') (h : ∀ h', Fr h₀ L h' m → News h₀ L h' news' → Q () { s with heap := h', toks := s.toks + 2 }) :
    wpAny (model PySem.Challenge.rw_iy0004_01.row.prog w) A (setAttr (.ref a) (Str.ofString "next_key") u) Q E s := by
  revert X; k_fill; intro X
  exact set_dict F X N (InstAt.of_news N h1 h2) rfl (by k_is) (by k_is) (by k_is) (by k_is) (by k_get) (by k_put) U (Nat.le_of_ble_eq_true rfl) h
theorem sN_k {Q : Unit → Shared → Prop} (h1 : (a, instObj 39 d) ∈ news) (h2 : (d, nodeD x p nx k v c) ∈ news) (U : Upd d (nodeD x p nx k v c) (nodeD x p nx u v c) news news') (h : ∀ h', Fr h₀ L h' m → News h₀ L h' news' → Q () { s with heap := h', toks := s.toks + 2 }) :
    wpAny (model PySem.Challenge.rw_iy0004_01.row.prog w) A (setAttr (.ref a) (Str.ofString "key") u) Q E s := by
  revert X; k_fill; intro X
  exact set_dict F X N (InstAt.of_news N h1 h2) rfl (by k_is) (by k_is) (by k_is) (by k_is) (by k_get) (by k_put) U (Nat.le_of_ble_eq_true rfl) h
theorem sN_v {Q : Unit → Shared → Prop} (h1 : (a, instObj 39 d) ∈ news) (h2 : (d, nodeD x p nx k v c) ∈ news) (U : Upd d (nodeD x p nx k v c) (nodeD x p nx k u c) news news') (h : ∀ h', Fr h₀ L h' m → News h₀ L h' news' → Q () { s with heap := h', toks := s.toks + 2 }) :
    wpAny (model PySem.Challenge.rw_iy0004_01.row.prog w) A (setAttr (.ref a) (Str.ofString "value") u) Q E s := by
  revert X; k_fill; intro X
  exact set_dict F X N (InstAt.of_news N h1 h2) rfl (by k_is) (by k_is) (by k_is) (by k_is) (by k_get) (by k_put) U (Nat.le_of_ble_eq_true rfl) h
theorem sN_c {Q : Unit → Shared → Prop} (h1 : (a, instObj 39 d) ∈ news) (h2 : (d, nodeD x p nx k v c) ∈ news) (U : Upd d (nodeD x p nx k v c) (nodeD x p nx k v u) news news') (h : ∀ h', Fr h₀ L h' m → News h₀ L h' news' → Q () { s with heap := h', toks := s.toks + 2 }) :
    wpAny (model PySem.Challenge.rw_iy0004_01.row.prog w) A (setAttr (.ref a) (Str.ofString "cleanup") u) Q E s := by
  revert X; k_fill; intro X
  exact set_dict F X N (InstAt.of_news N h1 h2) rfl (by k_is) (by k_is) (by k_is) (by k_is) (by k_get) (by k_put) U (Nat.le_of_ble_eq_true rfl) h
theorem sC_c {Q : Unit → Shared → Prop} (h1 : (a, instObj 175 d) ∈ news) (h2 : (d, cacheD x c r l z y) ∈ news) (U : Upd d (cacheD x c r l z y) (cacheD x u r l z y) news news') (h : ∀ h', Fr h₀ L h' m → News h₀ L h' news' → Q () { s with heap := h', toks := s.toks + 2 }) :
    wpAny (model PySem.Challenge.rw_iy0004_01.row.prog w) A (setAttr (.ref a) (Str.ofString "_cache") u) Q E s := by
  revert X; k_fill; intro X
  exact set_dict F X N (InstAt.of_news N h1 h2) rfl (by k_is) (by k_is) (by k_is) (by k_is) (by k_get) (by k_put) U (Nat.le_of_ble_eq_true rfl) h
theorem sC_r {Q : Unit → Shared → Prop} (h1 : (a, instObj 175 d) ∈ news) (h2 : (d, cacheD x c r l z y) ∈ news) (U : Upd d (cacheD x c r l z y) (cacheD x c u l z y) news news') (h : ∀ h', Fr h₀ L h' m → News h₀ L h' news' → Q () { s with heap := h', toks := s.toks + 2 }) :
    wpAny (model PySem.Challenge.rw_iy0004_01.row.prog w) A (setAttr (.ref a) (Str.ofString "_most_recently_used") u) Q E s := by
  revert X; k_fill; intro X
  exact set_dict F X N (InstAt.of_news N h1 h2) rfl (by k_is) (by k_is) (by k_is) (by k_is) (by k_get) (by k_put) U (Nat.le_of_ble_eq_true rfl) h
theorem sC_l {Q : Unit → Shared → Prop} (h1 : (a, instObj 175 d) ∈ news) (h2 : (d, cacheD x c r l z y) ∈ news) (U : Upd d (cacheD x c r l z y) (cacheD x c r u z y) news news') (h : ∀ h', Fr h₀ L h' m → News h₀ L h' news' → Q () { s with heap := h', toks := s.toks + 2 }) :
    wpAny (model PySem.Challenge.rw_iy0004_01.row.prog w) A (setAttr (.ref a) (Str.ofString "_least_recently_used") u) Q E s := by
  revert X; k_fill; intro X
  exact set_dict F X N (InstAt.of_news N h1 h2) rfl (by k_is) (by k_is) (by k_is) (by k_is) (by k_get) (by k_put) U (Nat.le_of_ble_eq_true rfl) h
theorem sC_z {Q : Unit → Shared → Prop} (h1 : (a, instObj 175 d) ∈ news) (h2 : (d, cacheD x c r l z y) ∈ news) (U : Upd d (cacheD x c r l z y) (cacheD x c r l u y) news news') (h : ∀ h', Fr h₀ L h' m → News h₀ L h' news' → Q () { s with heap := h', toks := s.toks + 2 }) :
    wpAny (model PySem.Challenge.rw_iy0004_01.row.prog w) A (setAttr (.ref a) (Str.ofString "_max_cache") u) Q E s := by
  revert X; k_fill; intro X
  exact set_dict F X N (InstAt.of_news N h1 h2) rfl (by k_is) (by k_is) (by k_is) (by k_is) (by k_get) (by k_put) U (Nat.le_of_ble_eq_true rfl) h
theorem sC_y {Q : Unit → Shared → Prop} (h1 : (a, instObj 175 d) ∈ news) (h2 : (d, cacheD x c r l z y) ∈ news) (U : Upd d (cacheD x c r l z y) (cacheD x c r l z u) news news') (h : ∀ h', Fr h₀ L h' m → News h₀ L h' news' → Q () { s with heap := h', toks := s.toks + 2 }) :
    wpAny (model PySem.Challenge.rw_iy0004_01.row.prog w) A (setAttr (.ref a) (Str.ofString "_after_cleanup_count") u) Q E s := by
  revert X; k_fill; intro X
  exact set_dict F X N (InstAt.of_news N h1 h2) rfl (by k_is) (by k_is) (by k_is) (by k_is) (by k_get) (by k_put) U (Nat.le_of_ble_eq_true rfl) h
end
end
section
-- LTl
open PySem PySem.W PySem.Calls PyProof.Rows
/-- the cache's own defs, read off the given program -/
noncomputable def clsBody : List Stmt := match (PySem.Challenge.pw_iy0004_01.main.body[3]? : Option Stmt) with
  | some (.ClassDef _ _ _ b _ _ _ _ _ _ _) => b
  | _ => []
noncomputable def mBody (i : Nat) : List Stmt := match (clsBody[i]? : Option Stmt) with
  | some (.FunctionDef _ _ b _ _ _ _ _ _ _) => b
  | _ => []
noncomputable def mScope (i : Nat) : Scope := match (clsBody[i]? : Option Stmt) with
  | some (.FunctionDef _ _ _ _ _ _ s _ _ _) => s
  | _ => default
theorem two_map {x y : Str} {u v : Value} {m : Str → Option Value} (hx : m x = some u) (hy : m y = some v) : m = fun z => if z = x then some u else if z = y then some v else m z := by
  funext z
  split
  · rename_i e; rw [e, hx]
  split
  · rename_i e; rw [e, hy]
  rfl
theorem three_map {x y v' : Str} {u v w : Value} {m : Str → Option Value} (hx : m x = some u) (hy : m y = some v) (hv : m v' = some w) : m = fun z => if z = x then some u else if z = y then some v else if z = v' then some w else m z := by
  refine Eq.trans ?_ (funext fun z => congrArg (fun q => if z = x then some u else q) (congrFun (two_map hy hv) z))
  funext z
  split
  · rename_i e; rw [e, hx]
  rfl
theorem off_c3 {S : List (Addr × Obj)} {a b c d : Addr} {r : List Addr} {o : Obj} (h : OwnOff S (a :: b :: c :: r)) (h1 : @Ne Nat a d) (h2 : @Ne Nat b d) (h3 : @Ne Nat c d) : OwnOff ((d, o) :: S) [a, b, c] := by
  intro p hp e he
  have he' : e ∈ a :: b :: c :: r := by
    simp only [List.mem_cons, List.not_mem_nil, or_false] at he ⊢
    rcases he with h | h | h <;> simp [h]
  rcases List.mem_cons.mp hp with rfl | hp
  · simp only [List.mem_cons, List.not_mem_nil, or_false] at he
    rcases he with rfl | rfl | rfl
    · exact Ne.symm h1
    · exact Ne.symm h2
    · exact Ne.symm h3
  · exact h p hp e he'
theorem rules_LTl0 : True := by
  k_with_none
  k_with "ne" => (refine neN ?_; (try dsimp only); first | assumption | (apply Ne.symm; assumption))
  k_with "tone" => (refine neN ?_; (try dsimp only); first | assumption | (apply Ne.symm; assumption))
  k_with "mem" => (first | assumption | exact mem_at 0 rfl | exact mem_at 1 rfl | exact mem_at 2 rfl | exact mem_at 3 rfl | exact mem_at 4 rfl | exact mem_at 5 rfl | exact mem_dr 1 (by assumption) | exact mem_dr 2 (by assumption) | exact mem_dr 3 (by assumption) | exact mem_dr 4 (by assumption) | exact mem_dr 5 (by assumption))
  k_with "getAttr ref" => (k_here; k_dflt ((first | (with_reducible refine' gN_p ?F1r ?X1r ?N1r ?h1r ?h2r ?v1r ?_) | (with_reducible refine' gN_nx ?F1r ?X1r ?N1r ?h1r ?h2r ?v1r ?_) | (with_reducible refine' gN_k ?F1r ?X1r ?N1r ?h1r ?h2r ?v1r ?_) | (with_reducible refine' gN_v ?F1r ?X1r ?N1r ?h1r ?h2r ?v1r ?_) | (with_reducible refine' gN_c ?F1r ?X1r ?N1r ?h1r ?h2r ?v1r ?_) | (with_reducible refine' gC_c ?F1r ?X1r ?N1r ?h1r ?h2r ?v1r ?_) | (with_reducible refine' gC_r ?F1r ?X1r ?N1r ?h1r ?h2r ?v1r ?_) | (with_reducible refine' gC_l ?F1r ?X1r ?N1r ?h1r ?h2r ?v1r ?_) | (with_reducible refine' gC_z ?F1r ?X1r ?N1r ?h1r ?h2r ?v1r ?_) | (with_reducible refine' gC_y ?F1r ?X1r ?N1r ?h1r ?h2r ?v1r ?_)); (case F1r => k_asm); (case X1r => k_asm); (case N1r => k_asm); (case h1r => k_mem); (case h2r => k_mem); (case v1r => k_handed); k_whole))
  k_with "setAttr ref" => (k_here; k_dflt ((first | (with_reducible refine' sN_p ?F1r ?X1r ?N1r ?h1r ?h2r ?U1r ?_) | (with_reducible refine' sN_nx ?F1r ?X1r ?N1r ?h1r ?h2r ?U1r ?_) | (with_reducible refine' sN_v ?F1r ?X1r ?N1r ?h1r ?h2r ?U1r ?_) | (with_reducible refine' sN_c ?F1r ?X1r ?N1r ?h1r ?h2r ?U1r ?_) | (with_reducible refine' sC_r ?F1r ?X1r ?N1r ?h1r ?h2r ?U1r ?_) | (with_reducible refine' sC_l ?F1r ?X1r ?N1r ?h1r ?h2r ?U1r ?_) | (with_reducible refine' sC_z ?F1r ?X1r ?N1r ?h1r ?h2r ?U1r ?_) | (with_reducible refine' sC_y ?F1r ?X1r ?N1r ?h1r ?h2r ?U1r ?_)); (case F1r => k_asm); (case X1r => k_asm); (case N1r => k_asm); (case h1r => k_mem); (case h2r => k_mem); (case U1r => (first | exact upd_nd 0 (by assumption) rfl | exact upd_nd 1 (by assumption) rfl | exact upd_nd 2 (by assumption) rfl | exact upd_nd 3 (by assumption) rfl | exact upd_nd 4 (by assumption) rfl | exact upd_nd 5 (by assumption) rfl | k_upd)); k_whole); (refine (?_ : let l9 := _; ∀ h', Fr _ _ h' _ → News _ _ h' l9 → _)); intro l9r h'r F'r N'r; (try k_sweep))
  k_with "truthy ref" => (k_here; k_dflt ((refine' tN ?F1r ?X1r ?N1r ?h1r ?h2r ?_); (case F1r => k_asm); (case X1r => k_asm); (case N1r => k_asm); (case h1r => k_mem); (case h2r => k_mem); k_whole))
  k_with "storeName" => (k_here; k_dflt (refine' storeX_L ?F1r ?N1r ?_ ?a1r ?b1r; (case F1r => k_asm); (case N1r => k_asm); (case a1r => rfl); (case b1r => rfl); k_whole); (refine (?_ : let m9 := _; ∀ h', Fr _ _ h' m9 → News _ _ h' _ → _)); intro m9r h'r F'r N'r; (try k_sweep))
  k_with "enter" => (refine' code_def ?k1r ?k2r ?k3r ?k4r ?k5r ?kAr ?kFr ?kKr ?k6r ?k7r ?k8r ?k9r ?kBr ?_ ?c2r ?c3r ?c4r ?c5r; (case kAr => exact rfl); (case kFr => exact rfl); (case kKr => first | exact rfl | assumption); (case k1r => k_asm); (case k2r => k_asm); (case k3r => k_asm); (case k4r => k_asm); (case k5r => k_asm); (case k6r => k_is); (case k7r => k_is); (case k8r => ktr_room); (case k9r => first | exact BindsTo.of_eq rfl | exact binds_K (by k_in) rfl (by k_is) rfl rfl rfl); (case c5r => decide); (case kBr => exact locs rfl); (case c2r => exact rfl); (case c3r => exact rfl); (case c4r => exact rfl); k_whole; (refine (?_ : let m9 := _; ∀ g L h, Fr _ _ g _ → Fr _ _ h m9 → _)); intro m9r g'r L'r h'r FG'r F'r N'r B'r X'r T'r; (try dsimp only); (try k_fold); (refine (?_ : let e9 := _; let A9 := _; wpAny _ A9 (execs _ e9) _ _ _)); intro e9r A9r; (try ((with_reducible refine gen_tk ?_); intro tk9r)))
  trivial
section
variable {w : World} {p : Program} {loose : List Str} {mean : ExcName → Option Value} {mg mb : Str → Option Value} {A : Around} {base g : Heap} {os : List Env} {L : Addr} {m : Str → Option Value} {s : Shared} {Q : Flow → Shared → Prop} {E : Value → Shared → Prop} {cdv : Value}
  (B : Below A base os g) (F : Fr g L s.heap m) (X : (hd.heap_39 w.params).In g) (T : Top p loose mean mg mb g)
include B F X T
variable {ca cd na nd ma md : Addr} {xc xn xm : N6} {c lru vsz vst nn np nk nv nc mv mp mc mn : Value} {S : List (Addr × Obj)} {i : Int} {ti : Tok}
set_option maxRecDepth 100000 in
set_option maxHeartbeats 4000000 in
theorem ra_tail (hs : m (Str.ofString "self") = some (.ref ca)) (hn : m (Str.ofString "node") = some (.ref na))
  (N : News g L s.heap ((cd, cacheD xc c (.ref ma) lru vsz vst) :: (nd, nodeD xn np nn nk nv nc) :: (md, nodeD xm mp mn (.int i ti) mv mc) :: S))
  (h1 : (ca, instObj 175 cd) ∈ S) (h2 : (na, instObj 39 nd) ∈ S) (h3 : (ma, instObj 39 md) ∈ S) (hnd : (cd :: nd :: md :: Ads S).Nodup)
  (ret : ∀ (h' : Heap) (tk : Nat), Fr g L h' m → News g L h' ((cd, cacheD xc c (.ref na) lru vsz vst) :: (nd, nodeD xn .none (.int i ti) nk nv nc) :: (md, nodeD xm (.ref na) mn (.int i ti) mv mc) :: S) → Q .next { s with heap := h', toks := tk }) :
  wpAny (model PySem.Challenge.rw_iy0004_01.row.prog w) (A.deeper (envOf (Str.ofString "LRUCache._record_access") (mScope 11) L 135 cdv)) (execs ((mBody 11).drop 4) (envOf (Str.ofString "LRUCache._record_access") (mScope 11) L 135 cdv)) Q E s := by
  revert X; k_fill; intro X
  let l9 := newsOf N
  have N9 : News _ _ _ l9 := N
  have es : mScope 11 = Scope.mk _ _ _ _ _ := rfl
  have eb : (mBody 11).drop 4 = [Stmt.Assign _ _ _, Stmt.Assign _ _ _, Stmt.Assign _ _ _, Stmt.Assign _ _ _] := rfl
  rw [es, eb]
  clear es eb
  have em := two_map hs hn
  rw [em] at F ret
  clear em
  let m9 := mapOf F
  have F9 : Fr _ _ _ m9 := F
  refine (?_ : let e9 := _; let A9 := _; wpAny _ A9 (execs _ e9) _ _ _); intro e9 A9
  k_steps
  all_goals (first | exact ret _ _ (by assumption) (by assumption) | w_report)
set_option maxRecDepth 100000 in
set_option maxHeartbeats 4000000 in
theorem gi_tail {v : Int} {tv : Tok} (hs : m (Str.ofString "self") = some (.ref ca)) (hn : m (Str.ofString "node") = some (.ref na)) (hm : m (Str.ofString "mru") = some (.ref ma))
  (N : News g L s.heap ((cd, cacheD xc c (.ref ma) lru vsz vst) :: (nd, nodeD xn np nn nk (.int v tv) nc) :: (md, nodeD xm mp mn (.int i ti) mv mc) :: S))
  (h1 : (ca, instObj 175 cd) ∈ S) (h2 : (na, instObj 39 nd) ∈ S) (h3 : (ma, instObj 39 md) ∈ S) (hnd : (cd :: nd :: md :: Ads S).Nodup)
  (ret : ∀ (h' : Heap) (tk : Nat), Fr g L h' m → News g L h' ((cd, cacheD xc c (.ref na) lru vsz vst) :: (nd, nodeD xn .none (.int i ti) nk (.int v tv) nc) :: (md, nodeD xm (.ref na) mn (.int i ti) mv mc) :: S) → Q (.ret (.int v tv)) { s with heap := h', toks := tk }) :
  wpAny (model PySem.Challenge.rw_iy0004_01.row.prog w) (A.deeper (envOf (Str.ofString "LRUCache.__getitem__") (mScope 2) L 72 cdv)) (execs ((mBody 2).drop 10) (envOf (Str.ofString "LRUCache.__getitem__") (mScope 2) L 72 cdv)) Q E s := by
  revert X; k_fill; intro X
  let l9 := newsOf N
  have N9 : News _ _ _ l9 := N
  have es : mScope 2 = Scope.mk _ _ _ _ _ := rfl
  have eb : (mBody 2).drop 10 = [Stmt.Assign _ _ _, Stmt.Assign _ _ _, Stmt.Assign _ _ _, Stmt.Assign _ _ _, Stmt.Return _ _] := rfl
  rw [es, eb]
  clear es eb
  have em := three_map hs hn hm
  rw [em] at F ret
  clear em
  let m9 := mapOf F
  have F9 : Fr _ _ _ m9 := F
  refine (?_ : let e9 := _; let A9 := _; wpAny _ A9 (execs _ e9) _ _ _); intro e9 A9
  k_steps
  all_goals (first | exact ret _ _ (by assumption) (by assumption) | w_report)
end
end
section
-- LKeep
open PySem PySem.W PySem.Calls PyProof.Rows
/-- how many entries stay: by the count that was asked for, or by the size -/
noncomputable def stayOf (z y : Int) : Int := if y < 0 then (z * 8).fdiv 10 else if z < y then z else y
/-- the second argument: none where the count is below nought -/
def KeepV (v : Value) (y : Int) : Prop := (y < 0 ∧ v = .none) ∨ (¬ y < 0 ∧ ∃ t, v = .int y t)
theorem stayOf_bounds {z y : Int} (hz : 1 ≤ z) : 0 ≤ stayOf z y ∧ stayOf z y ≤ z := by
  unfold stayOf
  split
  · rw [Int.fdiv_eq_ediv_of_nonneg _ (by decide)]; omega
  · split <;> omega
/-- an expression's end: a number, the ledger as it was -/
noncomputable def MidN (g : Heap) (L : Addr) (m : Str → Option Value) (led : List (Addr × Obj)) (s : Shared) (x : Int) (v : Value) (s' : Shared) : Prop :=
  ∃ h' tk t, v = .int x t ∧ s' = { s with heap := h', toks := tk } ∧ Fr g L h' m ∧ News g L h' led
theorem mid_N {M : Model} {A : Around} {c : Sem Value} {Q : Value → Shared → Prop} {E : Value → Shared → Prop} {g : Heap} {L : Addr} {m : Str → Option Value} {led : List (Addr × Obj)} {s : Shared} (x : Int) (F : Fr g L s.heap m) (N : News g L s.heap led)
    (H : wpAny M A c (MidN g L m led s x) E s) (K : ∀ h' tk t, Fr g L h' m → News g L h' led → Q (.int x t) { s with heap := h', toks := tk }) : wpAny M A c Q E s :=
  wpAny_mono H (fun v s' ⟨h', tk, t, e1, e2, F', N'⟩ => e1 ▸ e2 ▸ K h' tk t F' N') (fun _ _ h => h)
theorem MidN.neg {g h' : Heap} {L : Addr} {m : Str → Option Value} {led : List (Addr × Obj)} {s : Shared} {z y : Int} {t : Tok} {tk : Nat} (h : y < 0) (F : Fr g L h' m) (N : News g L h' led) : MidN g L m led s (stayOf z y) (.int ((z * 8).fdiv 10) t) { s with heap := h', toks := tk } :=
  ⟨h', tk, t, by rw [show stayOf z y = (z * 8).fdiv 10 from if_pos h], rfl, F, N⟩
theorem MidN.pos {g h' : Heap} {L : Addr} {m : Str → Option Value} {led : List (Addr × Obj)} {s : Shared} {z y : Int} {t : Tok} {tk : Nat} (h : ¬ y < 0) (F : Fr g L h' m) (N : News g L h' led) : MidN g L m led s (stayOf z y) (.int (if z < y then z else y) t) { s with heap := h', toks := tk } :=
  ⟨h', tk, t, by rw [show stayOf z y = if z < y then z else y from if_neg h], rfl, F, N⟩
/-- an expression's end: a number of a kind -/
noncomputable def MidP (g : Heap) (L : Addr) (m : Str → Option Value) (led : List (Addr × Obj)) (s : Shared) (P : Int → Prop) (v : Value) (s' : Shared) : Prop :=
  ∃ h' tk t x, P x ∧ v = .int x t ∧ s' = { s with heap := h', toks := tk } ∧ Fr g L h' m ∧ News g L h' led
theorem mid_P {M : Model} {A : Around} {c : Sem Value} {Q : Value → Shared → Prop} {E : Value → Shared → Prop} {g : Heap} {L : Addr} {m : Str → Option Value} {led : List (Addr × Obj)} {s : Shared} (P : Int → Prop) (F : Fr g L s.heap m) (N : News g L s.heap led)
    (H : wpAny M A c (MidP g L m led s P) E s) (K : ∀ h' tk t x, P x → Fr g L h' m → News g L h' led → Q (.int x t) { s with heap := h', toks := tk }) : wpAny M A c Q E s :=
  wpAny_mono H (fun v s' ⟨h', tk, t, x, hx, e1, e2, F', N'⟩ => e1 ▸ e2 ▸ K h' tk t x hx F' N') (fun _ _ h => h)
theorem MidP.intro {g h' : Heap} {L : Addr} {m : Str → Option Value} {led : List (Addr × Obj)} {s : Shared} {P : Int → Prop} {x : Int} {t : Tok} {tk : Nat} (h : P x) (F : Fr g L h' m) (N : News g L h' led) : MidP g L m led s P (.int x t) { s with heap := h', toks := tk } :=
  ⟨h', tk, t, x, h, rfl, rfl, F, N⟩
/-- an expression's end: none, or the number -/
noncomputable def MidK (s : Shared) (y : Int) (v : Value) (s' : Shared) : Prop := ∃ tk, KeepV v y ∧ s' = { s with toks := tk }
theorem mid_K {M : Model} {A : Around} {c : Sem Value} {Q : Value → Shared → Prop} {E : Value → Shared → Prop} {s : Shared} (y : Int)
    (H : wpAny M A c (MidK s y) E s) (K : ∀ v tk, KeepV v y → Q v { s with toks := tk }) : wpAny M A c Q E s :=
  wpAny_mono H (fun v s' ⟨tk, e1, e2⟩ => e2 ▸ K v tk e1) (fun _ _ h => h)
theorem MidK.neg {s : Shared} {y : Int} {tk : Nat} (h : y < 0) : MidK s y .none { s with toks := tk } := ⟨tk, .inl ⟨h, rfl⟩, rfl⟩
theorem MidK.pos {s : Shared} {y : Int} {t : Tok} {tk : Nat} (h : ¬ y < 0) : MidK s y (.int y t) { s with toks := tk } := ⟨tk, .inr ⟨h, t, rfl⟩, rfl⟩
noncomputable def updIf : Stmt := match (mBody 16).drop 1 with
  | i :: _ => i
  | [] => default
theorem rules_LKeep0 : True := by
  k_with_none
  k_with "ne" => (refine neN ?_; (try dsimp only); first | assumption | (apply Ne.symm; assumption))
  k_with "tone" => (refine neN ?_; (try dsimp only); first | assumption | (apply Ne.symm; assumption))
  k_with "mem" => assumption
  trivial
section
variable {w : World} {p : Program} {loose : List Str} {mean : ExcName → Option Value} {mg mb : Str → Option Value} {dp un : Nat} {gd : Option (List Code)} {fs : Option (List Env)} {base g : Heap} {os : List Env} {L : Addr} {m : Str → Option Value} {s : Shared} {Q : Flow → Shared → Prop} {E : Value → Shared → Prop} {cdv : Value}
  (B : Below { handled := none, depth := dp, frames := fs, guards := gd, units := un } base os g) (F : Fr g L s.heap m) (X : (hd.heap_39 w.params).In g) (T : Top p loose mean mg mb g)
include B F X T
variable {ca cd : Addr} {xc : N6} {c mru lru st0 v : Value} {S : List (Addr × Obj)} {z y : Int} {zt : Tok}
set_option maxRecDepth 100000 in
set_option maxHeartbeats 4000000 in
theorem upd_if (hs : m (Str.ofString "self") = some (.ref ca)) (ha : m (Str.ofString "after_cleanup_count") = some v) (hv : KeepV v y)
  (N : News g L s.heap ((cd, cacheD xc c mru lru (.int z zt) st0) :: S)) (h1 : (ca, instObj 175 cd) ∈ S) (hoff : OwnOff S [cd]) (hz : 1 ≤ z ∧ z ≤ 5)
  (ret : ∀ (h' : Heap) (tk : Nat) (t : Tok), Fr g L h' m → News g L h' ((cd, cacheD xc c mru lru (.int z zt) (.int (stayOf z y) t)) :: S) → Q .next { s with heap := h', toks := tk }) :
  wpAny (model PySem.Challenge.rw_iy0004_01.row.prog w) (({ handled := none, depth := dp, frames := fs, guards := gd, units := un } : Around).deeper (envOf (Str.ofString "LRUCache._update_max_cache") (mScope 16) L 172 cdv)) (exec updIf (envOf (Str.ofString "LRUCache._update_max_cache") (mScope 16) L 172 cdv)) Q E s := by
  revert X; k_fill; intro X
  have es : mScope 16 = Scope.mk _ _ _ _ _ := rfl
  have eb : updIf = Stmt.If _ _ _ _ := rfl
  rw [es, eb]
  clear es eb
  have em := two_map hs ha
  rw [em] at F ret
  clear em hs ha
  rcases hv with ⟨hy, rfl⟩ | ⟨hy, t0, rfl⟩
  · have e : stayOf z y = (z * 8).fdiv 10 := if_pos hy
    rw [e] at ret
    k_steps
    all_goals (first | exact ret _ _ _ (by assumption) (by assumption) | w_report)
  · have e : stayOf z y = if z < y then z else y := if_neg hy
    rw [e] at ret
    clear e
    replace hy : 0 ≤ y := Int.not_lt.mp hy
    k_steps
    all_goals (first | exact ret _ _ _ (by assumption) (by assumption) | w_report)
end
end
section
-- LList
open PySem PySem.W PySem.Calls PyProof.Rows
set_option genInjectivity false in
set_option genSizeOf false in
structure Node where
  a : Addr
  d : Addr
  x : N6
  k : Int
  kt : Tok
  v : Int
  vt : Tok
  f : Bool
noncomputable abbrev Node.K (n : Node) : Value := .int n.k n.kt
noncomputable abbrev Node.V (n : Node) : Value := .int n.v n.vt
noncomputable def Node.C (ga : Addr) (n : Node) : Value := if n.f then .ref ga else .none
noncomputable def nxt (e : Value) : List Node → Value
  | [] => e
  | m :: _ => m.K
noncomputable def seg (ga : Addr) : Value → List Node → Value → List (Addr × Obj)
  | _, [], _ => []
  | p, n :: r, e => (n.d, nodeD n.x p (nxt e r) n.K n.V (n.C ga)) :: seg ga (.ref n.a) r e
noncomputable def lastA : Value → List Node → Value
  | p, [] => p
  | _, n :: r => lastA (.ref n.a) r
noncomputable def mruV : List Node → Value
  | [] => .none
  | n :: _ => .ref n.a
section
variable {ga : Addr}
theorem nxt_nil (e : Value) : nxt e [] = e := rfl
theorem nxt_cons (e : Value) (n : Node) (l : List Node) : nxt e (n :: l) = n.K := rfl
theorem nxt_append (e : Value) (l r : List Node) : nxt e (l ++ r) = nxt (nxt e r) l := by cases l <;> rfl
theorem seg_append (l r : List Node) (e : Value) : ∀ p, seg ga p (l ++ r) e = seg ga p l (nxt e r) ++ seg ga (lastA p l) r e := by
  induction l with
  | nil => intro p; rfl
  | cons n l ih => intro p; simp only [List.cons_append, seg, lastA, ih, nxt_append]
theorem lastA_append (l r : List Node) : ∀ p, lastA p (l ++ r) = lastA (lastA p l) r := by
  induction l with
  | nil => intro p; rfl
  | cons n l ih => intro p; simp only [List.cons_append, lastA, ih]
theorem ads_seg (l : List Node) (e : Value) : ∀ p, Ads (seg ga p l e) = l.map Node.d := by
  induction l with
  | nil => intro p; rfl
  | cons n l ih => intro p; simp only [Ads, seg, List.map_cons] at ih ⊢; rw [ih]
theorem lastA_cons (l : List Node) (p : Value) (n : Node) : ∃ q ∈ n :: l, lastA p (n :: l) = .ref q.a := by
  induction l generalizing n p with
  | nil => exact ⟨n, .head _, rfl⟩
  | cons m l ih =>
    obtain ⟨q, hq, e⟩ := ih (.ref n.a) m
    exact ⟨q, .tail _ hq, e⟩
theorem nodup_perm {l l' : List Addr} (h : l.Nodup) (e : ∀ x, l'.count x = l.count x) : l'.Nodup := (List.perm_iff_count.mpr e).nodup_iff.mpr h
theorem same_of_ads {R : List (Addr × Obj)} (h : (Ads R).Nodup) {p q : Addr × Obj} (hp : p ∈ R) (hq : q ∈ R) (e : p.1 = q.1) : p = q := by
  induction R with
  | nil => cases hp
  | cons r R ih =>
    simp only [Ads, List.map_cons, List.nodup_cons] at h
    rcases List.mem_cons.mp hp with h1 | h1
    · rcases List.mem_cons.mp hq with h2 | h2
      · rw [h1, h2]
      · exact absurd (List.mem_map.mpr ⟨q, h2, by rw [← e, h1]⟩) h.1
    · rcases List.mem_cons.mp hq with h2 | h2
      · exact absurd (List.mem_map.mpr ⟨p, h1, by rw [e, h2]⟩) h.1
      · exact ih h.2 h1 h2
/-- two nodes with unlike dicts are unlike -/
theorem inst_ne {R : List (Addr × Obj)} (h : (Ads R).Nodup) {a b d e : Addr} (hp : (a, instObj 39 d) ∈ R) (hq : (b, instObj 39 e) ∈ R) (hd : d ≠ e) : @Ne Nat a b := fun x => by
  have := same_of_ads h hp hq x
  simp only [Prod.mk.injEq, instObj, Obj.mk.injEq, Option.some.injEq] at this
  exact hd this.2.2.1
end
section
variable {α : Type} {c n m q p : α} {P Q R : List α}
theorem mA2 : ∀ z, z ∈ c :: n :: m :: R → z ∈ c :: m :: n :: R := by
  intro z hz; simp only [List.mem_cons] at *; grind
theorem mA3 : ∀ z, z ∈ c :: n :: m :: q :: (Q ++ R) → z ∈ c :: m :: n :: q :: (Q ++ R) := by
  intro z hz; simp only [List.mem_cons] at *; grind
theorem mA4 : ∀ z, z ∈ c :: n :: m :: p :: (P ++ R) → z ∈ c :: m :: (P ++ p :: n :: R) := by
  intro z hz; simp only [List.mem_cons, List.mem_append] at *; grind
theorem mB4 : ∀ z, z ∈ c :: n :: m :: (P ++ p :: R) → z ∈ c :: n :: m :: p :: (P ++ R) := by
  intro z hz; simp only [List.mem_cons, List.mem_append] at *; grind
theorem mA5 : ∀ z, z ∈ c :: n :: m :: q :: p :: (P ++ (Q ++ R)) → z ∈ c :: m :: (P ++ p :: n :: q :: (Q ++ R)) := by
  intro z hz; simp only [List.mem_cons, List.mem_append] at *; grind
theorem mB5 : ∀ z, z ∈ c :: n :: m :: (P ++ p :: q :: (Q ++ R)) → z ∈ c :: n :: m :: q :: p :: (P ++ (Q ++ R)) := by
  intro z hz; simp only [List.mem_cons, List.mem_append] at *; grind
end
theorem touch_of {Spec : List (Addr × Obj) → List (Addr × Obj) → Prop} {ga cd : Addr} {xc : N6} {c vsz vst : Value} {pre post : List Node} {n : Node} {R : List (Addr × Obj)}
  (hmono : ∀ A B A' B', (∀ p, p ∈ A' → p ∈ A) → (∀ p, p ∈ B → p ∈ B') → Spec A' B' → Spec A B)
  (hR : ∀ x ∈ pre ++ n :: post, (x.a, instObj 39 x.d) ∈ R)
  (hn : (cd :: ((pre ++ n :: post).map Node.d ++ Ads R)).Nodup)
  (same : ∀ (S : List (Addr × Obj)) (nx : Value), (∀ x ∈ R, x ∈ S) → (cd :: n.d :: Ads S).Nodup →
    Spec ((cd, cacheD xc c (.ref n.a) (lastA .none (n :: post)) vsz vst) :: (n.d, nodeD n.x .none nx n.K n.V (n.C ga)) :: S) ((cd, cacheD xc c (.ref n.a) (lastA .none (n :: post)) vsz vst) :: (n.d, nodeD n.x .none nx n.K n.V (n.C ga)) :: S))
  (last2 : ∀ (S : List (Addr × Obj)) (m : Node) (mn : Value), m ∈ pre → (∀ x ∈ R, x ∈ S) → (cd :: n.d :: m.d :: Ads S).Nodup → @Ne Nat m.a n.a →
    Spec ((cd, cacheD xc c (.ref m.a) (.ref n.a) vsz vst) :: (n.d, nodeD n.x (.ref m.a) .none n.K n.V (n.C ga)) :: (m.d, nodeD m.x .none mn m.K m.V (m.C ga)) :: S)
      ((cd, cacheD xc c (.ref n.a) (.ref m.a) vsz vst) :: (n.d, nodeD n.x .none m.K n.K n.V (n.C ga)) :: (m.d, nodeD m.x (.ref n.a) .none m.K m.V (m.C ga)) :: S))
  (last : ∀ (S : List (Addr × Obj)) (m p : Node) (mn pp pn : Value), m ∈ pre → p ∈ pre → (∀ x ∈ R, x ∈ S) → (cd :: n.d :: m.d :: p.d :: Ads S).Nodup → @Ne Nat m.a n.a →
    Spec ((cd, cacheD xc c (.ref m.a) (.ref n.a) vsz vst) :: (n.d, nodeD n.x (.ref p.a) .none n.K n.V (n.C ga)) :: (m.d, nodeD m.x .none mn m.K m.V (m.C ga)) :: (p.d, nodeD p.x pp pn p.K p.V (p.C ga)) :: S)
      ((cd, cacheD xc c (.ref n.a) (.ref p.a) vsz vst) :: (n.d, nodeD n.x .none m.K n.K n.V (n.C ga)) :: (m.d, nodeD m.x (.ref n.a) mn m.K m.V (m.C ga)) :: (p.d, nodeD p.x pp .none p.K p.V (p.C ga)) :: S))
  (mid2 : ∀ (S : List (Addr × Obj)) (m q l : Node) (mn qn : Value), m ∈ pre → q ∈ post → l ∈ post → (∀ x ∈ R, x ∈ S) → (cd :: n.d :: m.d :: q.d :: Ads S).Nodup → @Ne Nat m.a n.a → @Ne Nat l.a n.a →
    Spec ((cd, cacheD xc c (.ref m.a) (.ref l.a) vsz vst) :: (n.d, nodeD n.x (.ref m.a) q.K n.K n.V (n.C ga)) :: (m.d, nodeD m.x .none mn m.K m.V (m.C ga)) :: (q.d, nodeD q.x (.ref n.a) qn q.K q.V (q.C ga)) :: S)
      ((cd, cacheD xc c (.ref n.a) (.ref l.a) vsz vst) :: (n.d, nodeD n.x .none m.K n.K n.V (n.C ga)) :: (m.d, nodeD m.x (.ref n.a) q.K m.K m.V (m.C ga)) :: (q.d, nodeD q.x (.ref m.a) qn q.K q.V (q.C ga)) :: S))
  (mid : ∀ (S : List (Addr × Obj)) (m p q l : Node) (mn qn pp pn : Value), m ∈ pre → p ∈ pre → q ∈ post → l ∈ post → (∀ x ∈ R, x ∈ S) → (cd :: n.d :: m.d :: q.d :: p.d :: Ads S).Nodup → @Ne Nat m.a n.a → @Ne Nat l.a n.a →
    Spec ((cd, cacheD xc c (.ref m.a) (.ref l.a) vsz vst) :: (n.d, nodeD n.x (.ref p.a) q.K n.K n.V (n.C ga)) :: (m.d, nodeD m.x .none mn m.K m.V (m.C ga)) :: (q.d, nodeD q.x (.ref n.a) qn q.K q.V (q.C ga)) :: (p.d, nodeD p.x pp pn p.K p.V (p.C ga)) :: S)
      ((cd, cacheD xc c (.ref n.a) (.ref l.a) vsz vst) :: (n.d, nodeD n.x .none m.K n.K n.V (n.C ga)) :: (m.d, nodeD m.x (.ref n.a) mn m.K m.V (m.C ga)) :: (q.d, nodeD q.x (.ref p.a) qn q.K q.V (q.C ga)) :: (p.d, nodeD p.x pp q.K p.K p.V (p.C ga)) :: S)) :
  Spec ((cd, cacheD xc c (mruV (pre ++ n :: post)) (lastA .none (pre ++ n :: post)) vsz vst) :: (seg ga .none (pre ++ n :: post) .none ++ R))
    ((cd, cacheD xc c (mruV (n :: (pre ++ post))) (lastA .none (n :: (pre ++ post))) vsz vst) :: (seg ga .none (n :: (pre ++ post)) .none ++ R)) := by
  have hRn : (Ads R).Nodup := by
    simp only [List.nodup_cons, List.nodup_append] at hn
    exact hn.2.2.1
  have hd : ∀ x ∈ pre ++ post, x.d ≠ n.d := by
    intro x hx
    have h1 : ((pre ++ n :: post).map Node.d).Nodup := by
      simp only [List.nodup_cons, List.nodup_append] at hn
      exact hn.2.1
    have h2 : (n.d :: (pre ++ post).map Node.d).Nodup := nodup_perm h1 fun y => by
      simp only [List.map_append, List.map_cons, List.count_cons, List.count_append]; lia
    intro e
    exact (List.nodup_cons.mp h2).1 (e ▸ List.mem_map.mpr ⟨x, hx, rfl⟩)
  have hne : ∀ x ∈ pre ++ post, @Ne Nat x.a n.a := fun x hx => inst_ne hRn (hR x (by
    rcases List.mem_append.mp hx with h | h
    · exact List.mem_append_left _ h
    · exact List.mem_append_right _ (.tail _ h))) (hR n (List.mem_append_right _ (.head _))) (hd x hx)
  cases pre with
  | nil =>
    simp only [List.nil_append] at *
    refine hmono _ _ _ _ (fun p hp => hp) (fun p hp => hp) (same (seg ga (.ref n.a) post .none ++ R) _ (fun x hx => List.mem_append_right _ hx) (nodup_perm hn fun y => ?_))
    simp only [Ads, List.map_append, ← ads_seg (ga := ga) post .none (.ref n.a), List.map_cons, List.count_cons, List.count_append]
    lia
  | cons m pre' =>
    have hmm : m ∈ m :: pre' := .head _
    have hma := hne m (List.mem_append_left _ hmm)
    rcases List.eq_nil_or_concat pre' with rfl | ⟨pre'', p, rfl⟩
    · cases post with
      | nil => exact hmono _ _ _ _ mA2 (fun _ h => h) (last2 R m n.K hmm (fun x hx => hx) (nodup_perm hn fun y => by
          simp only [Ads, List.map_append, List.cons_append, List.nil_append, List.map_cons, List.map_nil, List.count_cons, List.count_append, List.count_nil]; lia) hma)
      | cons q post' =>
        obtain ⟨l, hl, el⟩ := lastA_cons post' (.ref n.a) q
        have hla := hne l (List.mem_append_right _ hl)
        have el' : lastA (.ref q.a) post' = .ref l.a := el
        have h := mid2 (seg ga (.ref q.a) post' .none ++ R) m q l n.K (nxt .none post') hmm (.head _) hl (fun x hx => List.mem_append_right _ hx) (nodup_perm hn fun y => by
          rw [show Ads (seg ga (.ref q.a) post' .none ++ R) = post'.map Node.d ++ Ads R by rw [← ads_seg (ga := ga) post' .none (.ref q.a)]; exact List.map_append]
          simp only [List.map_append, List.cons_append, List.nil_append, List.map_cons, List.map_nil, List.count_cons, List.count_append, List.count_nil]; lia) hma hla
        refine hmono _ _ _ _ ?_ ?_ h
        · simp only [List.cons_append, List.nil_append, List.append_nil, List.append_assoc, seg, lastA, mruV, nxt_nil, nxt_cons, nxt_append, seg_append, lastA_append]
          rw [el']
          exact mA3
        · simp only [List.cons_append, List.nil_append, List.append_nil, List.append_assoc, seg, lastA, mruV, nxt_nil, nxt_cons, nxt_append, seg_append, lastA_append]
          rw [el']
          exact fun _ h => h
    · simp only [List.concat_eq_append] at hR hn hd hne last2 last mid2 mid hmm ⊢
      have hpm : p ∈ m :: (pre'' ++ [p]) := .tail _ (List.mem_append_right _ (.head _))
      cases post with
      | nil =>
        have h := last (seg ga (.ref m.a) pre'' p.K ++ R) m p (nxt p.K pre'') (lastA (.ref m.a) pre'') n.K hmm hpm (fun x hx => List.mem_append_right _ hx) (nodup_perm hn fun y => by
          rw [show Ads (seg ga (.ref m.a) pre'' p.K ++ R) = pre''.map Node.d ++ Ads R by rw [← ads_seg (ga := ga) pre'' p.K (.ref m.a)]; exact List.map_append]
          simp only [List.map_append, List.cons_append, List.nil_append, List.map_cons, List.map_nil, List.count_cons, List.count_append, List.count_nil]; lia) hma
        refine hmono _ _ _ _ ?_ ?_ h
        · simp only [List.cons_append, List.nil_append, List.append_nil, List.append_assoc, seg, lastA, mruV, nxt_nil, nxt_cons, nxt_append, seg_append, lastA_append]
          exact mA4
        · simp only [List.cons_append, List.nil_append, List.append_nil, List.append_assoc, seg, lastA, mruV, nxt_nil, nxt_cons, nxt_append, seg_append, lastA_append]
          exact mB4
      | cons q post' =>
        obtain ⟨l, hl, el⟩ := lastA_cons post' (.ref n.a) q
        have hla := hne l (List.mem_append_right _ hl)
        have el' : lastA (.ref q.a) post' = .ref l.a := el
        have h := mid (seg ga (.ref m.a) pre'' p.K ++ (seg ga (.ref q.a) post' .none ++ R)) m p q l (nxt p.K pre'') (nxt .none post') (lastA (.ref m.a) pre'') n.K hmm hpm (.head _) hl (fun x hx => List.mem_append_right _ (List.mem_append_right _ hx)) (nodup_perm hn fun y => by
          rw [show Ads (seg ga (.ref m.a) pre'' p.K ++ (seg ga (.ref q.a) post' .none ++ R)) = pre''.map Node.d ++ (post'.map Node.d ++ Ads R) by
            rw [← ads_seg (ga := ga) pre'' p.K (.ref m.a), ← ads_seg (ga := ga) post' .none (.ref q.a)]; simp only [Ads, List.map_append]]
          simp only [List.map_append, List.cons_append, List.nil_append, List.map_cons, List.map_nil, List.count_cons, List.count_append, List.count_nil]; lia) hma hla
        refine hmono _ _ _ _ ?_ ?_ h
        · simp only [List.cons_append, List.nil_append, List.append_nil, List.append_assoc, seg, lastA, mruV, nxt_nil, nxt_cons, nxt_append, seg_append, lastA_append]
          rw [el']
          exact mA5
        · simp only [List.cons_append, List.nil_append, List.append_nil, List.append_assoc, seg, lastA, mruV, nxt_nil, nxt_cons, nxt_append, seg_append, lastA_append]
          rw [el']
          exact mB5
end
section
-- LState
open PySem PySem.W PySem.Calls PyProof.Rows
set_option genInjectivity false in
set_option genSizeOf false in
structure Tup where
  t : Addr
  k : Int
  kt : Tok
  v : Int
  vt : Tok
noncomputable abbrev Tup.obj (u : Tup) : Obj := tup2 (.int u.k u.kt) (.int u.v u.vt)
set_option genInjectivity false in
set_option genSizeOf false in
structure CSt where
  line : List Node
  oc : Obj
  kvs : List (Int × Value)
  os : List Tup
  nn : Nat
  size : Int
  zt : Tok
  stay : Int
  yt : Tok
set_option genInjectivity false in
set_option genSizeOf false in
structure CFix where
  ga : Addr
  ol : Addr
  ca : Addr
  cd : Addr
  dc : Addr
  xc : N6
  S₀ : List (Addr × Obj)
noncomputable abbrev refsOf (os : List Tup) : List Value := os.map fun u => Value.ref u.t
/-- the changing part, then the rest -/
noncomputable abbrev Led (c : CFix) (s : CSt) (R : List (Addr × Obj)) : List (Addr × Obj) :=
  (c.ol, listOf (refsOf s.os).toArray s.nn) :: (c.cd, cacheD c.xc (.ref c.dc) (mruV s.line) (lastA .none s.line) (.int s.size s.zt) (.int s.stay s.yt)) :: (c.dc, s.oc) :: (seg c.ga .none s.line .none ++ R)
noncomputable abbrev pr (n : Node) : Int × Value := (n.k, Value.ref n.a)
structure Good (w : World) (c : CFix) (s : CSt) (R : List (Addr × Obj)) : Prop where
  hoc : s.oc.IsDictOf (intKind PySem.Challenge.rw_iy0004_01.row.prog w) s.kvs
  hkv : s.kvs.Perm (s.line.map pr)
  hkeys : (s.line.map Node.k).Nodup
  hca : (c.ca, instObj 175 c.cd) ∈ R
  hin : ∀ n ∈ s.line, (n.a, instObj 39 n.d) ∈ R
  hos : ∀ u ∈ s.os, (u.t, u.obj) ∈ R
  hnd : (c.ol :: c.cd :: c.dc :: (s.line.map Node.d ++ Ads R)).Nodup
  hS : ∀ x ∈ c.S₀, x ∈ R
  hdc : (c.dc == sysModules) = false
  hga : ∃ goc god gfd gsl, (c.ga, (⟨goc, god, .func gfd, gsl⟩ : Obj)) ∈ c.S₀
  hroom : s.os.length + s.line.length ≤ 4096
theorem nodup_keys {kvs : List (Int × Value)} {line : List Node} (h : kvs.Perm (line.map pr)) (hk : (line.map Node.k).Nodup) : (kvs.map (·.1)).Nodup := by
  have h1 := (h.map (·.1)).nodup_iff.mpr
  refine h1 ?_
  simpa [List.map_map, Function.comp_def] using hk
theorem find_of_nodup {kvs : List (Int × Value)} (h : (kvs.map (·.1)).Nodup) {k : Int} {v : Value} (hm : (k, v) ∈ kvs) : valueAt kvs k = some v := by
  induction kvs with
  | nil => cases hm
  | cons x r ih =>
    simp only [List.map_cons, List.nodup_cons] at h
    rcases List.mem_cons.mp hm with e | h2
    · subst e; simp [valueAt]
    · have : ¬ x.1 = k := fun e => h.1 (List.mem_map.mpr ⟨(k, v), h2, e.symm⟩)
      have := ih h.2 h2
      simp only [valueAt, List.find?_cons] at this ⊢
      simp [*]
theorem valueAt_perm {kvs : List (Int × Value)} {line : List Node} (h : kvs.Perm (line.map pr)) (hk : (line.map Node.k).Nodup) {n : Node} (hn : n ∈ line) : valueAt kvs n.k = some (.ref n.a) :=
  find_of_nodup (nodup_keys h hk) (h.mem_iff.mpr (List.mem_map.mpr ⟨n, hn, rfl⟩))
theorem valueAt_none {kvs : List (Int × Value)} {line : List Node} (h : kvs.Perm (line.map pr)) {k : Int} (hn : k ∉ line.map Node.k) : valueAt kvs k = none := by
  unfold valueAt
  rw [List.find?_eq_none.mpr ?_]
  · rfl
  · intro x hx
    have := h.mem_iff.mp hx
    obtain ⟨n, hn', rfl⟩ := List.mem_map.mp this
    simp only [decide_eq_true_eq]
    intro e
    exact hn (List.mem_map.mpr ⟨n, hn', e⟩)
theorem ads_led (c : CFix) (s : CSt) (R : List (Addr × Obj)) : Ads (Led c s R) = c.ol :: c.cd :: c.dc :: (s.line.map Node.d ++ Ads R) := by
  simp only [Ads, Led, List.map_cons, List.map_append]
  rw [← ads_seg (ga := c.ga) s.line .none .none]
theorem Good.val {w : World} {c : CFix} {s : CSt} {R : List (Addr × Obj)} (G : Good w c s R) {n : Node} (hn : n ∈ s.line) : valueAt s.kvs n.k = some (.ref n.a) := valueAt_perm G.hkv G.hkeys hn
theorem Good.len {w : World} {c : CFix} {s : CSt} {R : List (Addr × Obj)} (G : Good w c s R) : s.kvs.length = s.line.length := by
  have := G.hkv.length_eq
  simpa using this
theorem perm_mid (pre post : List Node) (n : Node) : (n :: (pre ++ post)).Perm (pre ++ n :: post) := (List.perm_middle).symm
theorem Good.touch {w : World} {c : CFix} {s : CSt} {R : List (Addr × Obj)} (G : Good w c s R) {pre post : List Node} {n : Node} (e : s.line = pre ++ n :: post) : Good w c { s with line := n :: (pre ++ post) } R := by
  have hp : (n :: (pre ++ post)).Perm s.line := e ▸ perm_mid pre post n
  refine ⟨G.hoc, G.hkv.trans (hp.map pr).symm, ((hp.map Node.k).nodup_iff).mpr G.hkeys, G.hca, fun x hx => G.hin x (hp.mem_iff.mp hx), G.hos, ?_, G.hS, G.hdc, G.hga, ?_⟩
  · refine (List.Perm.nodup_iff ?_).mpr G.hnd
    exact ((((hp.map Node.d).append_right _).cons _).cons _).cons _
  · have h1 := hp.length_eq
    have h2 := G.hroom
    simp only at *
    lia
end
section
-- LRa
open PySem PySem.W PySem.Calls PyProof.Rows
theorem rules_LRa0 : True := by
  k_with_none
  k_with "ne" => (refine neN ?_; (try dsimp only); first | assumption | (apply Ne.symm; assumption))
  k_with "tone" => (refine neN ?_; (try dsimp only); first | assumption | (apply Ne.symm; assumption))
  k_with "mem" => (first | assumption | exact mem_at 0 rfl | exact mem_at 1 rfl | exact mem_at 2 rfl | exact mem_at 3 rfl | exact mem_at 4 rfl | exact mem_at 5 rfl | exact mem_dr 1 (by assumption) | exact mem_dr 2 (by assumption) | exact mem_dr 3 (by assumption) | exact mem_dr 4 (by assumption) | exact mem_dr 5 (by assumption))
  k_with "getAttr ref" => (k_here; k_dflt ((first | (with_reducible refine' gN_p ?F1r ?X1r ?N1r ?h1r ?h2r ?v1r ?_) | (with_reducible refine' gN_nx ?F1r ?X1r ?N1r ?h1r ?h2r ?v1r ?_) | (with_reducible refine' gN_k ?F1r ?X1r ?N1r ?h1r ?h2r ?v1r ?_) | (with_reducible refine' gN_v ?F1r ?X1r ?N1r ?h1r ?h2r ?v1r ?_) | (with_reducible refine' gN_c ?F1r ?X1r ?N1r ?h1r ?h2r ?v1r ?_) | (with_reducible refine' gC_c ?F1r ?X1r ?N1r ?h1r ?h2r ?v1r ?_) | (with_reducible refine' gC_r ?F1r ?X1r ?N1r ?h1r ?h2r ?v1r ?_) | (with_reducible refine' gC_l ?F1r ?X1r ?N1r ?h1r ?h2r ?v1r ?_) | (with_reducible refine' gC_z ?F1r ?X1r ?N1r ?h1r ?h2r ?v1r ?_) | (with_reducible refine' gC_y ?F1r ?X1r ?N1r ?h1r ?h2r ?v1r ?_)); (case F1r => k_asm); (case X1r => k_asm); (case N1r => k_asm); (case h1r => k_mem); (case h2r => k_mem); (case v1r => k_handed); k_whole))
  k_with "setAttr ref" => (k_here; k_dflt ((first | (with_reducible refine' sN_p ?F1r ?X1r ?N1r ?h1r ?h2r ?U1r ?_) | (with_reducible refine' sN_nx ?F1r ?X1r ?N1r ?h1r ?h2r ?U1r ?_) | (with_reducible refine' sN_v ?F1r ?X1r ?N1r ?h1r ?h2r ?U1r ?_) | (with_reducible refine' sN_c ?F1r ?X1r ?N1r ?h1r ?h2r ?U1r ?_) | (with_reducible refine' sC_r ?F1r ?X1r ?N1r ?h1r ?h2r ?U1r ?_) | (with_reducible refine' sC_l ?F1r ?X1r ?N1r ?h1r ?h2r ?U1r ?_) | (with_reducible refine' sC_z ?F1r ?X1r ?N1r ?h1r ?h2r ?U1r ?_) | (with_reducible refine' sC_y ?F1r ?X1r ?N1r ?h1r ?h2r ?U1r ?_)); (case F1r => k_asm); (case X1r => k_asm); (case N1r => k_asm); (case h1r => k_mem); (case h2r => k_mem); (case U1r => (first | exact upd_nd 0 (by assumption) rfl | exact upd_nd 1 (by assumption) rfl | exact upd_nd 2 (by assumption) rfl | exact upd_nd 3 (by assumption) rfl | exact upd_nd 4 (by assumption) rfl | exact upd_nd 5 (by assumption) rfl | k_upd)); k_whole); (refine (?_ : let l9 := _; ∀ h', Fr _ _ h' _ → News _ _ h' l9 → _)); intro l9r h'r F'r N'r; (try k_sweep))
  k_with "truthy ref" => (k_here; k_dflt ((refine' tN ?F1r ?X1r ?N1r ?h1r ?h2r ?_); (case F1r => k_asm); (case X1r => k_asm); (case N1r => k_asm); (case h1r => k_mem); (case h2r => k_mem); k_whole))
  k_with "storeName" => (k_here; k_dflt (refine' storeX_L ?F1r ?N1r ?_ ?a1r ?b1r; (case F1r => k_asm); (case N1r => k_asm); (case a1r => rfl); (case b1r => rfl); k_whole); (refine (?_ : let m9 := _; ∀ h', Fr _ _ h' m9 → News _ _ h' _ → _)); intro m9r h'r F'r N'r; (try k_sweep))
  k_with "enter" => (refine' code_def ?k1r ?k2r ?k3r ?k4r ?k5r ?kAr ?kFr ?kKr ?k6r ?k7r ?k8r ?k9r ?kBr ?_ ?c2r ?c3r ?c4r ?c5r; (case kAr => exact rfl); (case kFr => exact rfl); (case kKr => first | exact rfl | assumption); (case k1r => k_asm); (case k2r => k_asm); (case k3r => k_asm); (case k4r => k_asm); (case k5r => k_asm); (case k6r => k_is); (case k7r => k_is); (case k8r => ktr_room); (case k9r => first | exact BindsTo.of_eq rfl | exact binds_K (by k_in) rfl (by k_is) rfl rfl rfl); (case c5r => decide); (case kBr => exact locs rfl); (case c2r => exact rfl); (case c3r => exact rfl); (case c4r => exact rfl); k_whole; (refine (?_ : let m9 := _; ∀ g L h, Fr _ _ g _ → Fr _ _ h m9 → _)); intro m9r g'r L'r h'r FG'r F'r N'r B'r X'r T'r; (try dsimp only); (try k_fold); (refine (?_ : let e9 := _; let A9 := _; wpAny _ A9 (execs _ e9) _ _ _)); intro e9r A9r; (try ((with_reducible refine gen_tk ?_); intro tk9r)))
  trivial
section
variable {w : World} {p : Program} {loose : List Str} {mean : ExcName → Option Value} {mg mb : Str → Option Value}
  {dp un : Nat} {gd : Option (List Code)} {cn : Str} {cs : Scope} {a : Addr} {ccd : Value} {cl : List (Str × Addr)} {outer : List Env} {A₀ : Around} {base h₀ : Heap} {L : Addr} {m : Str → Option Value} {s : Shared} {Q E : Value → Shared → Prop}
  (B : Below A₀ base outer h₀) (F : Fr h₀ L s.heap m) (X : (hd.heap_39 w.params).In h₀) (T : Top p loose mean mg mb h₀) (hk : cs.kind = .function) (hdp : dp + 2 < recursionLimit)
include B F X T hk hdp
variable {ca cd na nd ma md la ld pa pd qa qd dc : Addr} {xc xn xm xp xq : N6} {c vsz vst nk nv nc mk mv mc mn pk pv pc pp pn qk qv qc qn : Value} {S : List (Addr × Obj)} {oc : Obj} {kvs : List (Int × Value)} {i j : Int} {ti tj : Tok}
theorem rules_LRaT : True := by
  k_with "execs cons" => (k_here; (with_reducible show wpAny _ _ (execs (Stmt.Assign [Expr.Attribute (Expr.Name (Str.ofString "node") _) (Str.ofString "next_key") _] (Expr.Attribute (Expr.Attribute _ _ _) (Str.ofString "key") _) _ :: _) _) _ _ _); k_dflt (refine' ra_tail ?b1r ?f1r ?x1r ?t1r ?s1r ?n1r ?n2r ?h1r ?h2r ?h3r ?o1r ?_; (case b1r => k_asm); (case f1r => k_asm); (case x1r => k_asm); (case t1r => k_asm); (case s1r => rfl); (case n1r => rfl); (case n2r => k_asm); (case h1r => k_mem); (case h2r => k_mem); (case h3r => k_mem); (case o1r => assumption)); intro h9r tk9r F9r N9r; (try dsimp only); (try k_fold))
  trivial
set_option maxRecDepth 100000 in
set_option maxHeartbeats 8000000 in
theorem ra_nil (N : News h₀ L s.heap ((cd, cacheD xc c .none .none vsz vst) :: S))
  (h1 : (ca, instObj 175 cd) ∈ S) (hnd : (cd :: Ads S).Nodup)
  (ret : Back h₀ L m s Q .none ((cd, cacheD xc c (.ref na) (.ref na) vsz vst) :: S)) :
  wpAny (model PySem.Challenge.rw_iy0004_01.row.prog w) (ktrTop dp un gd cn cs L a ccd cl outer) (call (.ref 135) [.ref ca, .ref na]) Q E s := by
  revert X; k_fill; intro X
  let l9 := newsOf N
  have N9 : News _ _ _ l9 := N
  refine wpAny_call ?_
  k_dflt ktr_enter
  k_steps
  all_goals (first | exact ret _ _ (by assumption) (by assumption) | w_report)
set_option maxRecDepth 100000 in
set_option maxHeartbeats 8000000 in
theorem ra_same {lru : Value} (N : News h₀ L s.heap ((cd, cacheD xc c (.ref na) lru vsz vst) :: S))
  (h1 : (ca, instObj 175 cd) ∈ S) (hnd : (cd :: Ads S).Nodup)
  (ret : Back h₀ L m s Q .none ((cd, cacheD xc c (.ref na) lru vsz vst) :: S)) :
  wpAny (model PySem.Challenge.rw_iy0004_01.row.prog w) (ktrTop dp un gd cn cs L a ccd cl outer) (call (.ref 135) [.ref ca, .ref na]) Q E s := by
  revert X; k_fill; intro X
  let l9 := newsOf N
  have N9 : News _ _ _ l9 := N
  refine wpAny_call ?_
  k_dflt ktr_enter
  k_steps
  all_goals (first | exact ret _ _ (by assumption) (by assumption) | w_report)
set_option maxRecDepth 100000 in
set_option maxHeartbeats 8000000 in
theorem ra_fresh (N : News h₀ L s.heap ((cd, cacheD xc c (.ref ma) (.ref la) vsz vst) :: (nd, nodeD xn .none .none nk nv nc) :: (md, nodeD xm .none mn (.int i ti) mv mc) :: S))
  (h1 : (ca, instObj 175 cd) ∈ S) (h2 : (na, instObj 39 nd) ∈ S) (h3 : (ma, instObj 39 md) ∈ S) (h4 : (la, instObj 39 ld) ∈ S)
  (hnd : (cd :: nd :: md :: Ads S).Nodup) (e1 : @Ne Nat la na) (e2 : @Ne Nat ma na)
  (ret : Back h₀ L m s Q .none ((cd, cacheD xc c (.ref na) (.ref la) vsz vst) :: (nd, nodeD xn .none (.int i ti) nk nv nc) :: (md, nodeD xm (.ref na) mn (.int i ti) mv mc) :: S)) :
  wpAny (model PySem.Challenge.rw_iy0004_01.row.prog w) (ktrTop dp un gd cn cs L a ccd cl outer) (call (.ref 135) [.ref ca, .ref na]) Q E s := by
  revert X; k_fill; intro X
  let l9 := newsOf N
  have N9 : News _ _ _ l9 := N
  refine wpAny_call ?_
  k_dflt ktr_enter
  k_steps
  all_goals (first | exact ret _ _ (by assumption) (by assumption) | w_report)
set_option maxRecDepth 100000 in
set_option maxHeartbeats 8000000 in
theorem ra_last2 (N : News h₀ L s.heap ((cd, cacheD xc c (.ref ma) (.ref na) vsz vst) :: (nd, nodeD xn (.ref ma) .none nk nv nc) :: (md, nodeD xm .none mn (.int i ti) mv mc) :: S))
  (h1 : (ca, instObj 175 cd) ∈ S) (h2 : (na, instObj 39 nd) ∈ S) (h3 : (ma, instObj 39 md) ∈ S)
  (hnd : (cd :: nd :: md :: Ads S).Nodup) (e2 : @Ne Nat ma na)
  (ret : Back h₀ L m s Q .none ((cd, cacheD xc c (.ref na) (.ref ma) vsz vst) :: (nd, nodeD xn .none (.int i ti) nk nv nc) :: (md, nodeD xm (.ref na) .none (.int i ti) mv mc) :: S)) :
  wpAny (model PySem.Challenge.rw_iy0004_01.row.prog w) (ktrTop dp un gd cn cs L a ccd cl outer) (call (.ref 135) [.ref ca, .ref na]) Q E s := by
  revert X; k_fill; intro X
  let l9 := newsOf N
  have N9 : News _ _ _ l9 := N
  refine wpAny_call ?_
  k_dflt ktr_enter
  k_steps
  all_goals (first | exact ret _ _ (by assumption) (by assumption) | w_report)
set_option maxRecDepth 100000 in
set_option maxHeartbeats 8000000 in
theorem ra_last (N : News h₀ L s.heap ((cd, cacheD xc c (.ref ma) (.ref na) vsz vst) :: (nd, nodeD xn (.ref pa) .none nk nv nc) :: (md, nodeD xm .none mn (.int i ti) mv mc) :: (pd, nodeD xp pp pn pk pv pc) :: S))
  (h1 : (ca, instObj 175 cd) ∈ S) (h2 : (na, instObj 39 nd) ∈ S) (h3 : (ma, instObj 39 md) ∈ S) (h4 : (pa, instObj 39 pd) ∈ S)
  (hnd : (cd :: nd :: md :: pd :: Ads S).Nodup) (e2 : @Ne Nat ma na)
  (ret : Back h₀ L m s Q .none ((cd, cacheD xc c (.ref na) (.ref pa) vsz vst) :: (nd, nodeD xn .none (.int i ti) nk nv nc) :: (md, nodeD xm (.ref na) mn (.int i ti) mv mc) :: (pd, nodeD xp pp .none pk pv pc) :: S)) :
  wpAny (model PySem.Challenge.rw_iy0004_01.row.prog w) (ktrTop dp un gd cn cs L a ccd cl outer) (call (.ref 135) [.ref ca, .ref na]) Q E s := by
  revert X; k_fill; intro X
  let l9 := newsOf N
  have N9 : News _ _ _ l9 := N
  refine wpAny_call ?_
  k_dflt ktr_enter
  k_steps
  all_goals (first | exact ret _ _ (by assumption) (by assumption) | w_report)
end
end
section
-- LRb
open PySem PySem.W PySem.Calls PyProof.Rows
theorem rules_LRb0 : True := by
  k_with_none
  k_with "ne" => (refine neN ?_; (try dsimp only); first | assumption | (apply Ne.symm; assumption))
  k_with "tone" => (refine neN ?_; (try dsimp only); first | assumption | (apply Ne.symm; assumption))
  k_with "mem" => (first | assumption | exact mem_at 0 rfl | exact mem_at 1 rfl | exact mem_at 2 rfl | exact mem_at 3 rfl | exact mem_at 4 rfl | exact mem_at 5 rfl | exact mem_dr 1 (by assumption) | exact mem_dr 2 (by assumption) | exact mem_dr 3 (by assumption) | exact mem_dr 4 (by assumption) | exact mem_dr 5 (by assumption))
  k_with "getAttr ref" => (k_here; k_dflt ((first | (with_reducible refine' gN_p ?F1r ?X1r ?N1r ?h1r ?h2r ?v1r ?_) | (with_reducible refine' gN_nx ?F1r ?X1r ?N1r ?h1r ?h2r ?v1r ?_) | (with_reducible refine' gN_k ?F1r ?X1r ?N1r ?h1r ?h2r ?v1r ?_) | (with_reducible refine' gN_v ?F1r ?X1r ?N1r ?h1r ?h2r ?v1r ?_) | (with_reducible refine' gN_c ?F1r ?X1r ?N1r ?h1r ?h2r ?v1r ?_) | (with_reducible refine' gC_c ?F1r ?X1r ?N1r ?h1r ?h2r ?v1r ?_) | (with_reducible refine' gC_r ?F1r ?X1r ?N1r ?h1r ?h2r ?v1r ?_) | (with_reducible refine' gC_l ?F1r ?X1r ?N1r ?h1r ?h2r ?v1r ?_) | (with_reducible refine' gC_z ?F1r ?X1r ?N1r ?h1r ?h2r ?v1r ?_) | (with_reducible refine' gC_y ?F1r ?X1r ?N1r ?h1r ?h2r ?v1r ?_)); (case F1r => k_asm); (case X1r => k_asm); (case N1r => k_asm); (case h1r => k_mem); (case h2r => k_mem); (case v1r => k_handed); k_whole))
  k_with "setAttr ref" => (k_here; k_dflt ((first | (with_reducible refine' sN_p ?F1r ?X1r ?N1r ?h1r ?h2r ?U1r ?_) | (with_reducible refine' sN_nx ?F1r ?X1r ?N1r ?h1r ?h2r ?U1r ?_) | (with_reducible refine' sN_v ?F1r ?X1r ?N1r ?h1r ?h2r ?U1r ?_) | (with_reducible refine' sN_c ?F1r ?X1r ?N1r ?h1r ?h2r ?U1r ?_) | (with_reducible refine' sC_r ?F1r ?X1r ?N1r ?h1r ?h2r ?U1r ?_) | (with_reducible refine' sC_l ?F1r ?X1r ?N1r ?h1r ?h2r ?U1r ?_) | (with_reducible refine' sC_z ?F1r ?X1r ?N1r ?h1r ?h2r ?U1r ?_) | (with_reducible refine' sC_y ?F1r ?X1r ?N1r ?h1r ?h2r ?U1r ?_)); (case F1r => k_asm); (case X1r => k_asm); (case N1r => k_asm); (case h1r => k_mem); (case h2r => k_mem); (case U1r => (first | exact upd_nd 0 (by assumption) rfl | exact upd_nd 1 (by assumption) rfl | exact upd_nd 2 (by assumption) rfl | exact upd_nd 3 (by assumption) rfl | exact upd_nd 4 (by assumption) rfl | exact upd_nd 5 (by assumption) rfl | k_upd)); k_whole); (refine (?_ : let l9 := _; ∀ h', Fr _ _ h' _ → News _ _ h' l9 → _)); intro l9r h'r F'r N'r; (try k_sweep))
  k_with "truthy ref" => (k_here; k_dflt ((refine' tN ?F1r ?X1r ?N1r ?h1r ?h2r ?_); (case F1r => k_asm); (case X1r => k_asm); (case N1r => k_asm); (case h1r => k_mem); (case h2r => k_mem); k_whole))
  k_with "storeName" => (k_here; k_dflt (refine' storeX_L ?F1r ?N1r ?_ ?a1r ?b1r; (case F1r => k_asm); (case N1r => k_asm); (case a1r => rfl); (case b1r => rfl); k_whole); (refine (?_ : let m9 := _; ∀ h', Fr _ _ h' m9 → News _ _ h' _ → _)); intro m9r h'r F'r N'r; (try k_sweep))
  k_with "enter" => (refine' code_def ?k1r ?k2r ?k3r ?k4r ?k5r ?kAr ?kFr ?kKr ?k6r ?k7r ?k8r ?k9r ?kBr ?_ ?c2r ?c3r ?c4r ?c5r; (case kAr => exact rfl); (case kFr => exact rfl); (case kKr => first | exact rfl | assumption); (case k1r => k_asm); (case k2r => k_asm); (case k3r => k_asm); (case k4r => k_asm); (case k5r => k_asm); (case k6r => k_is); (case k7r => k_is); (case k8r => ktr_room); (case k9r => first | exact BindsTo.of_eq rfl | exact binds_K (by k_in) rfl (by k_is) rfl rfl rfl); (case c5r => decide); (case kBr => exact locs rfl); (case c2r => exact rfl); (case c3r => exact rfl); (case c4r => exact rfl); k_whole; (refine (?_ : let m9 := _; ∀ g L h, Fr _ _ g _ → Fr _ _ h m9 → _)); intro m9r g'r L'r h'r FG'r F'r N'r B'r X'r T'r; (try dsimp only); (try k_fold); (refine (?_ : let e9 := _; let A9 := _; wpAny _ A9 (execs _ e9) _ _ _)); intro e9r A9r; (try ((with_reducible refine gen_tk ?_); intro tk9r)))
  k_with "subscriptTail" => (k_here; (with_reducible show wpAny _ _ (subscriptTail _ _ (Value.ref _) (Value.int _ _)) _ _ _); k_dflt (refine' kda_item (knd := PySem.intKind _ _) ?Nr ?mr ?dr (intKind_is _ _ _ _) ?vr ?_; (case Nr => k_asm); (case mr => k_mem); (case dr => assumption); (case vr => assumption)))
  trivial
section
variable {w : World} {p : Program} {loose : List Str} {mean : ExcName → Option Value} {mg mb : Str → Option Value}
  {dp un : Nat} {gd : Option (List Code)} {cn : Str} {cs : Scope} {a : Addr} {ccd : Value} {cl : List (Str × Addr)} {outer : List Env} {A₀ : Around} {base h₀ : Heap} {L : Addr} {m : Str → Option Value} {s : Shared} {Q E : Value → Shared → Prop}
  (B : Below A₀ base outer h₀) (F : Fr h₀ L s.heap m) (X : (hd.heap_39 w.params).In h₀) (T : Top p loose mean mg mb h₀) (hk : cs.kind = .function) (hdp : dp + 2 < recursionLimit)
include B F X T hk hdp
variable {ca cd na nd ma md la ld pa pd qa qd dc : Addr} {xc xn xm xp xq : N6} {c vsz vst nk nv nc mk mv mc mn pk pv pc pp pn qk qv qc qn : Value} {S : List (Addr × Obj)} {oc : Obj} {kvs : List (Int × Value)} {i j : Int} {ti tj : Tok}
theorem rules_LRbT : True := by
  k_with "execs cons" => (k_here; (with_reducible show wpAny _ _ (execs (Stmt.Assign [Expr.Attribute (Expr.Name (Str.ofString "node") _) (Str.ofString "next_key") _] (Expr.Attribute (Expr.Attribute _ _ _) (Str.ofString "key") _) _ :: _) _) _ _ _); k_dflt (refine' ra_tail ?b1r ?f1r ?x1r ?t1r ?s1r ?n1r ?n2r ?h1r ?h2r ?h3r ?o1r ?_; (case b1r => k_asm); (case f1r => k_asm); (case x1r => k_asm); (case t1r => k_asm); (case s1r => rfl); (case n1r => rfl); (case n2r => k_asm); (case h1r => k_mem); (case h2r => k_mem); (case h3r => k_mem); (case o1r => assumption)); intro h9r tk9r F9r N9r; (try dsimp only); (try k_fold))
  trivial
set_option maxRecDepth 100000 in
set_option maxHeartbeats 8000000 in
theorem ra_mid2 (N : News h₀ L s.heap ((cd, cacheD xc (.ref dc) (.ref ma) (.ref la) vsz vst) :: (nd, nodeD xn (.ref ma) (.int j tj) nk nv nc) :: (md, nodeD xm .none mn (.int i ti) mv mc) :: (qd, nodeD xq (.ref na) qn (.int j tj) qv qc) :: S))
  (h1 : (ca, instObj 175 cd) ∈ S) (h2 : (na, instObj 39 nd) ∈ S) (h3 : (ma, instObj 39 md) ∈ S) (h4 : (qa, instObj 39 qd) ∈ S) (h5 : (la, instObj 39 ld) ∈ S) (h6 : (dc, oc) ∈ S)
  (hoc : oc.IsDictOf (intKind PySem.Challenge.rw_iy0004_01.row.prog w) kvs) (hq : valueAt kvs j = some (.ref qa))
  (hnd : (cd :: nd :: md :: qd :: Ads S).Nodup) (e1 : @Ne Nat la na) (e2 : @Ne Nat ma na)
  (ret : Back h₀ L m s Q .none ((cd, cacheD xc (.ref dc) (.ref na) (.ref la) vsz vst) :: (nd, nodeD xn .none (.int i ti) nk nv nc) :: (md, nodeD xm (.ref na) (.int j tj) (.int i ti) mv mc) :: (qd, nodeD xq (.ref ma) qn (.int j tj) qv qc) :: S)) :
  wpAny (model PySem.Challenge.rw_iy0004_01.row.prog w) (ktrTop dp un gd cn cs L a ccd cl outer) (call (.ref 135) [.ref ca, .ref na]) Q E s := by
  revert X; k_fill; intro X
  let l9 := newsOf N
  have N9 : News _ _ _ l9 := N
  refine wpAny_call ?_
  k_dflt ktr_enter
  k_steps
  all_goals (first | exact ret _ _ (by assumption) (by assumption) | w_report)
set_option maxRecDepth 100000 in
set_option maxHeartbeats 8000000 in
theorem ra_mid (N : News h₀ L s.heap ((cd, cacheD xc (.ref dc) (.ref ma) (.ref la) vsz vst) :: (nd, nodeD xn (.ref pa) (.int j tj) nk nv nc) :: (md, nodeD xm .none mn (.int i ti) mv mc) :: (qd, nodeD xq (.ref na) qn (.int j tj) qv qc) :: (pd, nodeD xp pp pn pk pv pc) :: S))
  (h1 : (ca, instObj 175 cd) ∈ S) (h2 : (na, instObj 39 nd) ∈ S) (h3 : (ma, instObj 39 md) ∈ S) (h4 : (qa, instObj 39 qd) ∈ S) (h5 : (la, instObj 39 ld) ∈ S) (h6 : (dc, oc) ∈ S) (h7 : (pa, instObj 39 pd) ∈ S)
  (hoc : oc.IsDictOf (intKind PySem.Challenge.rw_iy0004_01.row.prog w) kvs) (hq : valueAt kvs j = some (.ref qa))
  (hnd : (cd :: nd :: md :: qd :: pd :: Ads S).Nodup) (e1 : @Ne Nat la na) (e2 : @Ne Nat ma na)
  (ret : Back h₀ L m s Q .none ((cd, cacheD xc (.ref dc) (.ref na) (.ref la) vsz vst) :: (nd, nodeD xn .none (.int i ti) nk nv nc) :: (md, nodeD xm (.ref na) mn (.int i ti) mv mc) :: (qd, nodeD xq (.ref pa) qn (.int j tj) qv qc) :: (pd, nodeD xp pp (.int j tj) pk pv pc) :: S)) :
  wpAny (model PySem.Challenge.rw_iy0004_01.row.prog w) (ktrTop dp un gd cn cs L a ccd cl outer) (call (.ref 135) [.ref ca, .ref na]) Q E s := by
  revert X; k_fill; intro X
  let l9 := newsOf N
  have N9 : News _ _ _ l9 := N
  refine wpAny_call ?_
  k_dflt ktr_enter
  k_steps
  all_goals (first | exact ret _ _ (by assumption) (by assumption) | w_report)
end
end
section
-- LRc
open PySem PySem.W PySem.Calls PyProof.Rows
theorem rules_LRc0 : True := by
  k_with_none
  k_with "ne" => (refine neN ?_; (try dsimp only); first | assumption | (apply Ne.symm; assumption))
  k_with "tone" => (refine neN ?_; (try dsimp only); first | assumption | (apply Ne.symm; assumption))
  k_with "mem" => (first | assumption | exact mem_at 0 rfl | exact mem_at 1 rfl | exact mem_at 2 rfl | exact mem_at 3 rfl | exact mem_at 4 rfl | exact mem_at 5 rfl | exact mem_dr 1 (by assumption) | exact mem_dr 2 (by assumption) | exact mem_dr 3 (by assumption) | exact mem_dr 4 (by assumption) | exact mem_dr 5 (by assumption))
  k_with "getAttr ref" => (k_here; k_dflt ((first | (with_reducible refine' gN_p ?F1r ?X1r ?N1r ?h1r ?h2r ?v1r ?_) | (with_reducible refine' gN_nx ?F1r ?X1r ?N1r ?h1r ?h2r ?v1r ?_) | (with_reducible refine' gN_k ?F1r ?X1r ?N1r ?h1r ?h2r ?v1r ?_) | (with_reducible refine' gN_v ?F1r ?X1r ?N1r ?h1r ?h2r ?v1r ?_) | (with_reducible refine' gN_c ?F1r ?X1r ?N1r ?h1r ?h2r ?v1r ?_) | (with_reducible refine' gC_c ?F1r ?X1r ?N1r ?h1r ?h2r ?v1r ?_) | (with_reducible refine' gC_r ?F1r ?X1r ?N1r ?h1r ?h2r ?v1r ?_) | (with_reducible refine' gC_l ?F1r ?X1r ?N1r ?h1r ?h2r ?v1r ?_) | (with_reducible refine' gC_z ?F1r ?X1r ?N1r ?h1r ?h2r ?v1r ?_) | (with_reducible refine' gC_y ?F1r ?X1r ?N1r ?h1r ?h2r ?v1r ?_)); (case F1r => k_asm); (case X1r => k_asm); (case N1r => k_asm); (case h1r => k_mem); (case h2r => k_mem); (case v1r => k_handed); k_whole))
  k_with "setAttr ref" => (k_here; k_dflt ((first | (with_reducible refine' sN_p ?F1r ?X1r ?N1r ?h1r ?h2r ?U1r ?_) | (with_reducible refine' sN_nx ?F1r ?X1r ?N1r ?h1r ?h2r ?U1r ?_) | (with_reducible refine' sN_v ?F1r ?X1r ?N1r ?h1r ?h2r ?U1r ?_) | (with_reducible refine' sN_c ?F1r ?X1r ?N1r ?h1r ?h2r ?U1r ?_) | (with_reducible refine' sC_r ?F1r ?X1r ?N1r ?h1r ?h2r ?U1r ?_) | (with_reducible refine' sC_l ?F1r ?X1r ?N1r ?h1r ?h2r ?U1r ?_) | (with_reducible refine' sC_z ?F1r ?X1r ?N1r ?h1r ?h2r ?U1r ?_) | (with_reducible refine' sC_y ?F1r ?X1r ?N1r ?h1r ?h2r ?U1r ?_)); (case F1r => k_asm); (case X1r => k_asm); (case N1r => k_asm); (case h1r => k_mem); (case h2r => k_mem); (case U1r => (first | exact upd_nd 0 (by assumption) rfl | exact upd_nd 1 (by assumption) rfl | exact upd_nd 2 (by assumption) rfl | exact upd_nd 3 (by assumption) rfl | exact upd_nd 4 (by assumption) rfl | exact upd_nd 5 (by assumption) rfl | k_upd)); k_whole); (refine (?_ : let l9 := _; ∀ h', Fr _ _ h' _ → News _ _ h' l9 → _)); intro l9r h'r F'r N'r; (try k_sweep))
  k_with "truthy ref" => (k_here; k_dflt ((refine' tN ?F1r ?X1r ?N1r ?h1r ?h2r ?_); (case F1r => k_asm); (case X1r => k_asm); (case N1r => k_asm); (case h1r => k_mem); (case h2r => k_mem); k_whole))
  k_with "storeName" => (k_here; k_dflt (refine' storeX_L ?F1r ?N1r ?_ ?a1r ?b1r; (case F1r => k_asm); (case N1r => k_asm); (case a1r => rfl); (case b1r => rfl); k_whole); (refine (?_ : let m9 := _; ∀ h', Fr _ _ h' m9 → News _ _ h' _ → _)); intro m9r h'r F'r N'r; (try k_sweep))
  k_with "enter" => (refine' code_def ?k1r ?k2r ?k3r ?k4r ?k5r ?kAr ?kFr ?kKr ?k6r ?k7r ?k8r ?k9r ?kBr ?_ ?c2r ?c3r ?c4r ?c5r; (case kAr => exact rfl); (case kFr => exact rfl); (case kKr => first | exact rfl | assumption); (case k1r => k_asm); (case k2r => k_asm); (case k3r => k_asm); (case k4r => k_asm); (case k5r => k_asm); (case k6r => k_is); (case k7r => k_is); (case k8r => (first | exact room9 0 (by assumption) rfl | exact room9 1 (by assumption) rfl | exact room9 2 (by assumption) rfl | exact room9 3 (by assumption) rfl | exact room9 4 (by assumption) rfl | exact room9 5 (by assumption) rfl | exact room9 6 (by assumption) rfl | exact room9 7 (by assumption) rfl | exact room9 8 (by assumption) rfl | ktr_room)); (case k9r => first | exact BindsTo.of_eq rfl | exact binds_K (by k_in) rfl (by k_is) rfl rfl rfl); (case c5r => decide); (case kBr => exact locs rfl); (case c2r => exact rfl); (case c3r => exact rfl); (case c4r => exact rfl); k_whole; (refine (?_ : let m9 := _; ∀ g L h, Fr _ _ g _ → Fr _ _ h m9 → _)); intro m9r g'r L'r h'r FG'r F'r N'r B'r X'r T'r; (try dsimp only); (try k_fold); (refine (?_ : let e9 := _; let A9 := _; wpAny _ A9 (execs _ e9) _ _ _)); intro e9r A9r; (try ((with_reducible refine gen_tk ?_); intro tk9r)))
  k_with "subscriptTail" => (k_here; (with_reducible show wpAny _ _ (subscriptTail _ _ (Value.ref _) (Value.int _ _)) _ _ _); k_dflt (refine' kda_item (knd := PySem.intKind _ _) ?Nr ?mr ?dr (intKind_is _ _ _ _) ?vr ?_; (case Nr => k_asm); (case mr => k_mem); (case dr => assumption); (case vr => assumption)))
  trivial
section
variable {w : World} {p : Program} {loose : List Str} {mean : ExcName → Option Value} {mg mb : Str → Option Value}
  {dp un : Nat} {gd : Option (List Code)} {cn : Str} {cs : Scope} {a : Addr} {ccd : Value} {cl : List (Str × Addr)} {outer : List Env} {A₀ : Around} {base h₀ : Heap} {L : Addr} {m : Str → Option Value} {s : Shared} {Q E : Value → Shared → Prop}
  (B : Below A₀ base outer h₀) (F : Fr h₀ L s.heap m) (X : (hd.heap_39 w.params).In h₀) (T : Top p loose mean mg mb h₀) (hk : cs.kind = .function) (hdp : dp + 3 < recursionLimit)
include B F X T hk hdp
variable {ca cd na nd ga ol : Addr} {xn : N6} {nk nv nc pp pn vv : Value} {S S₀ : List (Addr × Obj)} {k v : Int} {tk tv : Tok} {us : List Value} {n : Nat} {gfd : FuncData} {goc : Value} {god : Option Addr} {gsl : Array (Option Value)}
set_option maxRecDepth 100000 in
set_option maxHeartbeats 8000000 in
theorem rc_none (N : News h₀ L s.heap ((nd, nodeD xn pp pn nk nv .none) :: S)) (h1 : (na, instObj 39 nd) ∈ S) (hn : (nd :: Ads S).Nodup)
  (ret : Back h₀ L m s Q .none ((nd, nodeD xn pp pn nk .none .none) :: S)) :
  wpAny (model PySem.Challenge.rw_iy0004_01.row.prog w) (ktrTop dp un gd cn cs L a ccd cl outer) (call (.ref 36) [.ref na]) Q E s := by
  revert X; k_fill; intro X
  let l9 := newsOf N
  have N9 : News _ _ _ l9 := N
  refine wpAny_call ?_
  k_dflt ktr_enter
  k_steps
  all_goals (first | exact ret _ _ (by assumption) (by assumption) | w_report)
theorem rules_LRc1 : True := by
  k_with "callWith ref" => (k_here; k_dflt (refine' callWith_F ?k1r ?_; (case k1r => exact FnAt.of (by k_asm) (by k_mem)); k_whole))
  k_with "call ref" => (k_here; (rename GoneSpec _ _ _ _ _ _ _ _ _ => hG9r); k_dflt (refine' hG9r _ _ _ _ _ _ _ _ _ _ _ _ _ _ _ _ _ _ _ _ _ _ _ _ ?g1r ?g2r ?g3r ?g4r ?g5r ?g6r ?g7r ?g8r ?g9r ?g10r ?_; (case g1r => k_asm); (case g2r => k_asm); (case g3r => k_asm); (case g4r => k_asm); (case g5r => k_asm); (case g6r => rfl); (case g7r => (first | exact room9 0 (by assumption) rfl | exact room9 1 (by assumption) rfl | exact room9 2 (by assumption) rfl | exact room9 3 (by assumption) rfl | exact room9 4 (by assumption) rfl | exact room9 5 (by assumption) rfl | exact room9 6 (by assumption) rfl | exact room9 7 (by assumption) rfl | exact room9 8 (by assumption) rfl | ktr_room)); (case g8r => exact off_tail (by assumption)); (case g9r => assumption); (case g10r => assumption)); intro t9r h9r tk9r F9r N9r l8r; (have hn9r := nd_new l8r hn); (let l7r := newsOf N9r); (have N7r : News _ _ _ l7r := N9r); (try dsimp only); (try k_fold))
  trivial
set_option maxRecDepth 100000 in
set_option maxHeartbeats 8000000 in
theorem rc_gone (hG : GoneSpec w p loose mean mg mb ga ol S₀) (N : News h₀ L s.heap ((ol, listOf us.toArray n) :: (nd, nodeD xn pp pn (.int k tk) (.int v tv) (.ref ga)) :: S)) (h1 : (na, instObj 39 nd) ∈ S) (h2 : (ga, (⟨goc, god, .func gfd, gsl⟩ : Obj)) ∈ S)
  (h3 : ∀ x ∈ S₀, x ∈ S) (hn : (ol :: nd :: Ads S).Nodup) (hl : us.length ≤ 4096)
  (ret : ∀ t, (∀ q ∈ ol :: nd :: Ads S, q < t) → Back h₀ L m s Q .none ((t, tup2 (.int k tk) (.int v tv)) :: (ol, listOf (us ++ [Value.ref t]).toArray (n + 1)) :: (nd, nodeD xn pp pn (.int k tk) .none .none) :: S)) :
  wpAny (model PySem.Challenge.rw_iy0004_01.row.prog w) (ktrTop dp un gd cn cs L a ccd cl outer) (call (.ref 36) [.ref na]) Q E s := by
  revert X; k_fill; intro X
  let l9 := newsOf N
  have N9 : News _ _ _ l9 := N
  refine wpAny_call ?_
  k_dflt ktr_enter
  k_steps
  all_goals (first | (refine' ret _ ?a _ _ ?b ?c; (case c => assumption); (case b => assumption); (case a => exact lt_ads (by assumption))) | w_report)
end
end
section
-- LGi
open PySem PySem.W PySem.Calls PyProof.Rows
theorem rules_LGi0 : True := by
  k_with_none
  k_with "ne" => (refine neN ?_; (try dsimp only); first | assumption | (apply Ne.symm; assumption))
  k_with "tone" => (refine neN ?_; (try dsimp only); first | assumption | (apply Ne.symm; assumption))
  k_with "mem" => (first | assumption | exact mem_at 0 rfl | exact mem_at 1 rfl | exact mem_at 2 rfl | exact mem_at 3 rfl | exact mem_at 4 rfl | exact mem_at 5 rfl | exact mem_dr 1 (by assumption) | exact mem_dr 2 (by assumption) | exact mem_dr 3 (by assumption) | exact mem_dr 4 (by assumption) | exact mem_dr 5 (by assumption))
  k_with "getAttr ref" => (k_here; k_dflt ((first | (with_reducible refine' gN_p ?F1r ?X1r ?N1r ?h1r ?h2r ?v1r ?_) | (with_reducible refine' gN_nx ?F1r ?X1r ?N1r ?h1r ?h2r ?v1r ?_) | (with_reducible refine' gN_k ?F1r ?X1r ?N1r ?h1r ?h2r ?v1r ?_) | (with_reducible refine' gN_v ?F1r ?X1r ?N1r ?h1r ?h2r ?v1r ?_) | (with_reducible refine' gN_c ?F1r ?X1r ?N1r ?h1r ?h2r ?v1r ?_) | (with_reducible refine' gC_c ?F1r ?X1r ?N1r ?h1r ?h2r ?v1r ?_) | (with_reducible refine' gC_r ?F1r ?X1r ?N1r ?h1r ?h2r ?v1r ?_) | (with_reducible refine' gC_l ?F1r ?X1r ?N1r ?h1r ?h2r ?v1r ?_) | (with_reducible refine' gC_z ?F1r ?X1r ?N1r ?h1r ?h2r ?v1r ?_) | (with_reducible refine' gC_y ?F1r ?X1r ?N1r ?h1r ?h2r ?v1r ?_)); (case F1r => k_asm); (case X1r => k_asm); (case N1r => k_asm); (case h1r => k_mem); (case h2r => k_mem); (case v1r => k_handed); k_whole))
  k_with "setAttr ref" => (k_here; k_dflt ((first | (with_reducible refine' sN_p ?F1r ?X1r ?N1r ?h1r ?h2r ?U1r ?_) | (with_reducible refine' sN_nx ?F1r ?X1r ?N1r ?h1r ?h2r ?U1r ?_) | (with_reducible refine' sN_v ?F1r ?X1r ?N1r ?h1r ?h2r ?U1r ?_) | (with_reducible refine' sN_c ?F1r ?X1r ?N1r ?h1r ?h2r ?U1r ?_) | (with_reducible refine' sC_r ?F1r ?X1r ?N1r ?h1r ?h2r ?U1r ?_) | (with_reducible refine' sC_l ?F1r ?X1r ?N1r ?h1r ?h2r ?U1r ?_) | (with_reducible refine' sC_z ?F1r ?X1r ?N1r ?h1r ?h2r ?U1r ?_) | (with_reducible refine' sC_y ?F1r ?X1r ?N1r ?h1r ?h2r ?U1r ?_)); (case F1r => k_asm); (case X1r => k_asm); (case N1r => k_asm); (case h1r => k_mem); (case h2r => k_mem); (case U1r => (first | exact upd_nd 0 (by assumption) rfl | exact upd_nd 1 (by assumption) rfl | exact upd_nd 2 (by assumption) rfl | exact upd_nd 3 (by assumption) rfl | exact upd_nd 4 (by assumption) rfl | exact upd_nd 5 (by assumption) rfl | k_upd)); k_whole); (refine (?_ : let l9 := _; ∀ h', Fr _ _ h' _ → News _ _ h' l9 → _)); intro l9r h'r F'r N'r; (try k_sweep))
  k_with "truthy ref" => (k_here; k_dflt ((refine' tN ?F1r ?X1r ?N1r ?h1r ?h2r ?_); (case F1r => k_asm); (case X1r => k_asm); (case N1r => k_asm); (case h1r => k_mem); (case h2r => k_mem); k_whole))
  k_with "storeName" => (k_here; k_dflt (refine' storeX_L ?F1r ?N1r ?_ ?a1r ?b1r; (case F1r => k_asm); (case N1r => k_asm); (case a1r => rfl); (case b1r => rfl); k_whole); (refine (?_ : let m9 := _; ∀ h', Fr _ _ h' m9 → News _ _ h' _ → _)); intro m9r h'r F'r N'r; (try k_sweep))
  k_with "enter" => (refine' code_def ?k1r ?k2r ?k3r ?k4r ?k5r ?kAr ?kFr ?kKr ?k6r ?k7r ?k8r ?k9r ?kBr ?_ ?c2r ?c3r ?c4r ?c5r; (case kAr => exact rfl); (case kFr => exact rfl); (case kKr => first | exact rfl | assumption); (case k1r => k_asm); (case k2r => k_asm); (case k3r => k_asm); (case k4r => k_asm); (case k5r => k_asm); (case k6r => k_is); (case k7r => k_is); (case k8r => ktr_room); (case k9r => first | exact BindsTo.of_eq rfl | exact binds_K (by k_in) rfl (by k_is) rfl rfl rfl); (case c5r => decide); (case kBr => exact locs rfl); (case c2r => exact rfl); (case c3r => exact rfl); (case c4r => exact rfl); k_whole; (refine (?_ : let m9 := _; ∀ g L h, Fr _ _ g _ → Fr _ _ h m9 → _)); intro m9r g'r L'r h'r FG'r F'r N'r B'r X'r T'r; (try dsimp only); (try k_fold); (refine (?_ : let e9 := _; let A9 := _; wpAny _ A9 (execs _ e9) _ _ _)); intro e9r A9r; (try ((with_reducible refine gen_tk ?_); intro tk9r)))
  k_with "subscriptTail" => (k_here; (with_reducible show wpAny _ _ (subscriptTail _ _ (Value.ref _) (Value.int _ _)) _ _ _); k_dflt (refine' kda_item (knd := PySem.intKind _ _) ?Nr ?mr ?dr (intKind_is _ _ _ _) ?vr ?_; (case Nr => k_asm); (case mr => k_mem); (case dr => assumption); (case vr => assumption)))
  trivial
section
variable {w : World} {p : Program} {loose : List Str} {mean : ExcName → Option Value} {mg mb : Str → Option Value}
  {dp un : Nat} {gd : Option (List Code)} {cn : Str} {cs : Scope} {a : Addr} {ccd : Value} {cl : List (Str × Addr)} {outer : List Env} {A₀ : Around} {base h₀ : Heap} {L : Addr} {m : Str → Option Value} {s : Shared} {Q E : Value → Shared → Prop}
  (B : Below A₀ base outer h₀) (F : Fr h₀ L s.heap m) (X : (hd.heap_39 w.params).In h₀) (T : Top p loose mean mg mb h₀) (hk : cs.kind = .function) (hdp : dp + 2 < recursionLimit)
include B F X T hk hdp
variable {ca cd na nd ma md la ld pa pd qa qd dc : Addr} {xc xn xm xp xq : N6} {c vsz vst nk nv nc mk mv mc mn pk pv pc pp pn qk qv qc qn : Value} {S : List (Addr × Obj)} {oc : Obj} {kvs : List (Int × Value)} {i j k v : Int} {ti tj tk tv : Tok}
theorem rules_LGiT : True := by
  k_with "execs cons" => (k_here; (with_reducible show wpAny _ _ (execs (Stmt.Assign [Expr.Attribute (Expr.Name (Str.ofString "node") _) (Str.ofString "next_key") _] (Expr.Attribute (Expr.Name (Str.ofString "mru") _) (Str.ofString "key") _) _ :: _) _) _ _ _); k_dflt (refine' gi_tail ?b1r ?f1r ?x1r ?t1r ?s1r ?n1r ?m1r ?n2r ?h1r ?h2r ?h3r ?o1r ?_; (case b1r => k_asm); (case f1r => k_asm); (case x1r => k_asm); (case t1r => k_asm); (case s1r => rfl); (case n1r => rfl); (case m1r => rfl); (case n2r => k_asm); (case h1r => k_mem); (case h2r => k_mem); (case h3r => k_mem); (case o1r => assumption)); intro h9r tk9r F9r N9r; (try dsimp only); (try k_fold))
  trivial
set_option maxRecDepth 100000 in
set_option maxHeartbeats 8000000 in
theorem gi_same (N : News h₀ L s.heap ((cd, cacheD xc (.ref dc) (.ref na) c vsz vst) :: (nd, nodeD xn pp pn nk (.int v tv) nc) :: S))
  (hoc : oc.IsDictOf (intKind PySem.Challenge.rw_iy0004_01.row.prog w) kvs) (h0 : (dc, oc) ∈ S) (h1 : (ca, instObj 175 cd) ∈ S) (h2 : (na, instObj 39 nd) ∈ S) (hv : valueAt kvs k = some (Value.ref na)) (hnd : (cd :: nd :: Ads S).Nodup)
  (ret : Back h₀ L m s Q (.int v tv) ((cd, cacheD xc (.ref dc) (.ref na) c vsz vst) :: (nd, nodeD xn pp pn nk (.int v tv) nc) :: S)) :
  wpAny (model PySem.Challenge.rw_iy0004_01.row.prog w) (ktrTop dp un gd cn cs L a ccd cl outer) (call (.ref 72) [.ref ca, .int k tk]) Q E s := by
  revert X; k_fill; intro X
  let l9 := newsOf N
  have N9 : News _ _ _ l9 := N
  refine wpAny_call ?_
  k_dflt ktr_enter
  k_steps
  all_goals (first | exact ret _ _ (by assumption) (by assumption) | w_report)
set_option maxRecDepth 100000 in
set_option maxHeartbeats 8000000 in
theorem gi_last2 (N : News h₀ L s.heap ((cd, cacheD xc (.ref dc) (.ref ma) (.ref na) vsz vst) :: (nd, nodeD xn (.ref ma) .none nk (.int v tv) nc) :: (md, nodeD xm .none mn (.int i ti) mv mc) :: S))
  (hoc : oc.IsDictOf (intKind PySem.Challenge.rw_iy0004_01.row.prog w) kvs) (h0 : (dc, oc) ∈ S) (h1 : (ca, instObj 175 cd) ∈ S) (h2 : (na, instObj 39 nd) ∈ S) (hv : valueAt kvs k = some (Value.ref na)) (h3 : (ma, instObj 39 md) ∈ S) (hnd : (cd :: nd :: md :: Ads S).Nodup) (e2 : @Ne Nat ma na)
  (ret : Back h₀ L m s Q (.int v tv) ((cd, cacheD xc (.ref dc) (.ref na) (.ref ma) vsz vst) :: (nd, nodeD xn .none (.int i ti) nk (.int v tv) nc) :: (md, nodeD xm (.ref na) .none (.int i ti) mv mc) :: S)) :
  wpAny (model PySem.Challenge.rw_iy0004_01.row.prog w) (ktrTop dp un gd cn cs L a ccd cl outer) (call (.ref 72) [.ref ca, .int k tk]) Q E s := by
  revert X; k_fill; intro X
  let l9 := newsOf N
  have N9 : News _ _ _ l9 := N
  refine wpAny_call ?_
  k_dflt ktr_enter
  k_steps
  all_goals (first | exact ret _ _ (by assumption) (by assumption) | w_report)
set_option maxRecDepth 100000 in
set_option maxHeartbeats 8000000 in
theorem gi_last (N : News h₀ L s.heap ((cd, cacheD xc (.ref dc) (.ref ma) (.ref na) vsz vst) :: (nd, nodeD xn (.ref pa) .none nk (.int v tv) nc) :: (md, nodeD xm .none mn (.int i ti) mv mc) :: (pd, nodeD xp pp pn pk pv pc) :: S))
  (hoc : oc.IsDictOf (intKind PySem.Challenge.rw_iy0004_01.row.prog w) kvs) (h0 : (dc, oc) ∈ S) (h1 : (ca, instObj 175 cd) ∈ S) (h2 : (na, instObj 39 nd) ∈ S) (hv : valueAt kvs k = some (Value.ref na)) (h3 : (ma, instObj 39 md) ∈ S) (h4 : (pa, instObj 39 pd) ∈ S) (hnd : (cd :: nd :: md :: pd :: Ads S).Nodup) (e2 : @Ne Nat ma na)
  (ret : Back h₀ L m s Q (.int v tv) ((cd, cacheD xc (.ref dc) (.ref na) (.ref pa) vsz vst) :: (nd, nodeD xn .none (.int i ti) nk (.int v tv) nc) :: (md, nodeD xm (.ref na) mn (.int i ti) mv mc) :: (pd, nodeD xp pp .none pk pv pc) :: S)) :
  wpAny (model PySem.Challenge.rw_iy0004_01.row.prog w) (ktrTop dp un gd cn cs L a ccd cl outer) (call (.ref 72) [.ref ca, .int k tk]) Q E s := by
  revert X; k_fill; intro X
  let l9 := newsOf N
  have N9 : News _ _ _ l9 := N
  refine wpAny_call ?_
  k_dflt ktr_enter
  k_steps
  all_goals (first | exact ret _ _ (by assumption) (by assumption) | w_report)
set_option maxRecDepth 100000 in
set_option maxHeartbeats 8000000 in
theorem gi_mid2 (N : News h₀ L s.heap ((cd, cacheD xc (.ref dc) (.ref ma) (.ref la) vsz vst) :: (nd, nodeD xn (.ref ma) (.int j tj) nk (.int v tv) nc) :: (md, nodeD xm .none mn (.int i ti) mv mc) :: (qd, nodeD xq (.ref na) qn (.int j tj) qv qc) :: S))
  (hoc : oc.IsDictOf (intKind PySem.Challenge.rw_iy0004_01.row.prog w) kvs) (h0 : (dc, oc) ∈ S) (h1 : (ca, instObj 175 cd) ∈ S) (h2 : (na, instObj 39 nd) ∈ S) (hv : valueAt kvs k = some (Value.ref na)) (hq : valueAt kvs j = some (Value.ref qa)) (h3 : (ma, instObj 39 md) ∈ S) (h4 : (qa, instObj 39 qd) ∈ S) (hnd : (cd :: nd :: md :: qd :: Ads S).Nodup) (e2 : @Ne Nat ma na)
  (ret : Back h₀ L m s Q (.int v tv) ((cd, cacheD xc (.ref dc) (.ref na) (.ref la) vsz vst) :: (nd, nodeD xn .none (.int i ti) nk (.int v tv) nc) :: (md, nodeD xm (.ref na) (.int j tj) (.int i ti) mv mc) :: (qd, nodeD xq (.ref ma) qn (.int j tj) qv qc) :: S)) :
  wpAny (model PySem.Challenge.rw_iy0004_01.row.prog w) (ktrTop dp un gd cn cs L a ccd cl outer) (call (.ref 72) [.ref ca, .int k tk]) Q E s := by
  revert X; k_fill; intro X
  let l9 := newsOf N
  have N9 : News _ _ _ l9 := N
  refine wpAny_call ?_
  k_dflt ktr_enter
  k_steps
  all_goals (first | exact ret _ _ (by assumption) (by assumption) | w_report)
set_option maxRecDepth 100000 in
set_option maxHeartbeats 8000000 in
theorem gi_mid (N : News h₀ L s.heap ((cd, cacheD xc (.ref dc) (.ref ma) (.ref la) vsz vst) :: (nd, nodeD xn (.ref pa) (.int j tj) nk (.int v tv) nc) :: (md, nodeD xm .none mn (.int i ti) mv mc) :: (qd, nodeD xq (.ref na) qn (.int j tj) qv qc) :: (pd, nodeD xp pp pn pk pv pc) :: S))
  (hoc : oc.IsDictOf (intKind PySem.Challenge.rw_iy0004_01.row.prog w) kvs) (h0 : (dc, oc) ∈ S) (h1 : (ca, instObj 175 cd) ∈ S) (h2 : (na, instObj 39 nd) ∈ S) (hv : valueAt kvs k = some (Value.ref na)) (hq : valueAt kvs j = some (Value.ref qa)) (h3 : (ma, instObj 39 md) ∈ S) (h4 : (qa, instObj 39 qd) ∈ S) (h5 : (pa, instObj 39 pd) ∈ S) (hnd : (cd :: nd :: md :: qd :: pd :: Ads S).Nodup) (e2 : @Ne Nat ma na)
  (ret : Back h₀ L m s Q (.int v tv) ((cd, cacheD xc (.ref dc) (.ref na) (.ref la) vsz vst) :: (nd, nodeD xn .none (.int i ti) nk (.int v tv) nc) :: (md, nodeD xm (.ref na) mn (.int i ti) mv mc) :: (qd, nodeD xq (.ref pa) qn (.int j tj) qv qc) :: (pd, nodeD xp pp (.int j tj) pk pv pc) :: S)) :
  wpAny (model PySem.Challenge.rw_iy0004_01.row.prog w) (ktrTop dp un gd cn cs L a ccd cl outer) (call (.ref 72) [.ref ca, .int k tk]) Q E s := by
  revert X; k_fill; intro X
  let l9 := newsOf N
  have N9 : News _ _ _ l9 := N
  refine wpAny_call ?_
  k_dflt ktr_enter
  k_steps
  all_goals (first | exact ret _ _ (by assumption) (by assumption) | w_report)
end
end
section
-- LTouch
open PySem PySem.W PySem.Calls PyProof.Rows
theorem rules_LTouch0 : True := by
  k_with_none
  k_with "ne" => (refine neN ?_; (try dsimp only); first | assumption | (apply Ne.symm; assumption))
  k_with "tone" => (refine neN ?_; (try dsimp only); first | assumption | (apply Ne.symm; assumption))
  k_with "mem" => assumption
  k_with "subscriptTail" => (k_here; (with_reducible show wpAny _ _ (subscriptTail _ _ (Value.ref _) (Value.int _ _)) _ _ _); k_dflt (refine' kda_item (knd := PySem.intKind _ _) ?Nr ?mr ?dr (intKind_is _ _ _ _) ?vr ?_; (case Nr => k_asm); (case mr => k_mem); (case dr => assumption); (case vr => assumption)))
  k_with "call ref" => (k_here; k_dflt (refine wpAny_call ?_; refine' code_def ?k1r ?k2r ?k3r ?k4r ?k5r ?kAr ?kFr ?kKr ?k6r ?k7r ?k8r ?k9r ?kBr ?_ ?c2r ?c3r ?c4r ?c5r; (case kAr => exact rfl); (case kFr => exact rfl); (case kKr => first | exact rfl | assumption); (case k1r => k_asm); (case k2r => k_asm); (case k3r => k_asm); (case k4r => k_asm); (case k5r => k_asm); (case k6r => k_is); (case k7r => k_is); (case k8r => ktr_room); (case k9r => first | exact BindsTo.of_eq rfl | exact binds_K (by k_in) rfl (by k_is) rfl rfl rfl); (case c5r => decide); (case kBr => exact locs rfl); (case c2r => exact rfl); (case c3r => exact rfl); (case c4r => exact rfl); k_whole; intro g'r L'r h'r FG'r F'r N'r B'r X'r T'r; (try dsimp only); (try k_fold)))
  trivial
section
variable {w : World} {p : Program} {loose : List Str} {mean : ExcName → Option Value} {mg mb : Str → Option Value}
  {dp un : Nat} {gd : Option (List Code)} {cn : Str} {cs : Scope} {a : Addr} {ccd : Value} {cl : List (Str × Addr)} {outer : List Env} {A₀ : Around} {base h₀ : Heap} {L : Addr} {m : Str → Option Value} {s : Shared} {Q E : Value → Shared → Prop}
  (B : Below A₀ base outer h₀) (F : Fr h₀ L s.heap m) (X : (hd.heap_39 w.params).In h₀) (T : Top p loose mean mg mb h₀) (hk : cs.kind = .function) (hdp : dp + 2 < recursionLimit)
include B F X T hk hdp
variable {ga ca cd dc : Addr} {xc : N6} {vsz vst : Value} {pre post line : List Node} {n : Node} {R : List (Addr × Obj)} {oc : Obj} {kvs : List (Int × Value)} {tk : Tok}
/-- a touched node goes to the head of the chain -/
theorem ra_touch (N : News h₀ L s.heap ((cd, cacheD xc (.ref dc) (mruV (pre ++ n :: post)) (lastA .none (pre ++ n :: post)) vsz vst) :: (seg ga .none (pre ++ n :: post) .none ++ R)))
  (hca : (ca, instObj 175 cd) ∈ R) (hR : ∀ x ∈ pre ++ n :: post, (x.a, instObj 39 x.d) ∈ R) (hdc : (dc, oc) ∈ R) (hoc : oc.IsDictOf (intKind PySem.Challenge.rw_iy0004_01.row.prog w) kvs)
  (hval : ∀ x ∈ pre ++ n :: post, valueAt kvs x.k = some (.ref x.a)) (hn : (cd :: ((pre ++ n :: post).map Node.d ++ Ads R)).Nodup)
  (ret : Back h₀ L m s Q .none ((cd, cacheD xc (.ref dc) (mruV (n :: (pre ++ post))) (lastA .none (n :: (pre ++ post))) vsz vst) :: (seg ga .none (n :: (pre ++ post)) .none ++ R))) :
  wpAny (model PySem.Challenge.rw_iy0004_01.row.prog w) (ktrTop dp un gd cn cs L a ccd cl outer) (call (.ref 135) [.ref ca, .ref n.a]) Q E s := by
  have hpre : ∀ x ∈ pre, x ∈ pre ++ n :: post := fun x hx => List.mem_append_left _ hx
  have hpost : ∀ x ∈ post, x ∈ pre ++ n :: post := fun x hx => List.mem_append_right _ (.tail _ hx)
  have hnn : n ∈ pre ++ n :: post := List.mem_append_right _ (.head _)
  refine touch_of (Spec := fun led led' => News h₀ L s.heap led → Back h₀ L m s Q .none led' → wpAny (model PySem.Challenge.rw_iy0004_01.row.prog w) (ktrTop dp un gd cn cs L a ccd cl outer) (call (.ref 135) [.ref ca, .ref n.a]) Q E s)
    (fun A B A' B' hA hB sp N ret => sp (kst_newsOf N hA) (fun h' tk' F N' => ret h' tk' F (kst_newsOf N' hB))) hR hn ?_ ?_ ?_ ?_ ?_ N ret
  · intro S nx hS hd N ret
    exact ra_same B F X T hk hdp N (.tail _ (hS _ hca)) hd ret
  · intro S m' mn hm hS hd e N ret
    exact ra_last2 B F X T hk hdp N (hS _ hca) (hS _ (hR _ hnn)) (hS _ (hR _ (hpre _ hm))) hd e ret
  · intro S m' p' mn pp pn hm hp hS hd e N ret
    exact ra_last B F X T hk hdp N (hS _ hca) (hS _ (hR _ hnn)) (hS _ (hR _ (hpre _ hm))) (hS _ (hR _ (hpre _ hp))) hd e ret
  · intro S m' q l mn qn hm hq hl hS hd e el N ret
    exact ra_mid2 B F X T hk hdp N (hS _ hca) (hS _ (hR _ hnn)) (hS _ (hR _ (hpre _ hm))) (hS _ (hR _ (hpost _ hq))) (hS _ (hR _ (hpost _ hl))) (hS _ hdc) hoc (hval _ (hpost _ hq)) hd el e ret
  · intro S m' p' q l mn qn pp pn hm hp hq hl hS hd e el N ret
    exact ra_mid B F X T hk hdp N (hS _ hca) (hS _ (hR _ hnn)) (hS _ (hR _ (hpre _ hm))) (hS _ (hR _ (hpost _ hq))) (hS _ (hR _ (hpost _ hl))) (hS _ hdc) (hS _ (hR _ (hpre _ hp))) hoc (hval _ (hpost _ hq)) hd el e ret
theorem gi_touch (N : News h₀ L s.heap ((cd, cacheD xc (.ref dc) (mruV (pre ++ n :: post)) (lastA .none (pre ++ n :: post)) vsz vst) :: (seg ga .none (pre ++ n :: post) .none ++ R)))
  (hca : (ca, instObj 175 cd) ∈ R) (hR : ∀ x ∈ pre ++ n :: post, (x.a, instObj 39 x.d) ∈ R) (hdc : (dc, oc) ∈ R) (hoc : oc.IsDictOf (intKind PySem.Challenge.rw_iy0004_01.row.prog w) kvs)
  (hval : ∀ x ∈ pre ++ n :: post, valueAt kvs x.k = some (.ref x.a)) (hn : (cd :: ((pre ++ n :: post).map Node.d ++ Ads R)).Nodup)
  (ret : Back h₀ L m s Q n.V ((cd, cacheD xc (.ref dc) (mruV (n :: (pre ++ post))) (lastA .none (n :: (pre ++ post))) vsz vst) :: (seg ga .none (n :: (pre ++ post)) .none ++ R))) :
  wpAny (model PySem.Challenge.rw_iy0004_01.row.prog w) (ktrTop dp un gd cn cs L a ccd cl outer) (call (.ref 72) [.ref ca, .int n.k tk]) Q E s := by
  have hpre : ∀ x ∈ pre, x ∈ pre ++ n :: post := fun x hx => List.mem_append_left _ hx
  have hpost : ∀ x ∈ post, x ∈ pre ++ n :: post := fun x hx => List.mem_append_right _ (.tail _ hx)
  have hnn : n ∈ pre ++ n :: post := List.mem_append_right _ (.head _)
  refine touch_of (Spec := fun led led' => News h₀ L s.heap led → Back h₀ L m s Q n.V led' → wpAny (model PySem.Challenge.rw_iy0004_01.row.prog w) (ktrTop dp un gd cn cs L a ccd cl outer) (call (.ref 72) [.ref ca, .int n.k tk]) Q E s)
    (fun A B A' B' hA hB sp N ret => sp (kst_newsOf N hA) (fun h' tk' F N' => ret h' tk' F (kst_newsOf N' hB))) hR hn ?_ ?_ ?_ ?_ ?_ N ret
  · intro S nx hS hd N ret
    exact gi_same B F X T hk hdp N hoc (hS _ hdc) (hS _ hca) (hS _ (hR _ hnn)) (hval _ hnn) hd ret
  · intro S m' mn hm hS hd e N ret
    exact gi_last2 B F X T hk hdp N hoc (hS _ hdc) (hS _ hca) (hS _ (hR _ hnn)) (hval _ hnn) (hS _ (hR _ (hpre _ hm))) hd e ret
  · intro S m' p' mn pp pn hm hp hS hd e N ret
    exact gi_last B F X T hk hdp N hoc (hS _ hdc) (hS _ hca) (hS _ (hR _ hnn)) (hval _ hnn) (hS _ (hR _ (hpre _ hm))) (hS _ (hR _ (hpre _ hp))) hd e ret
  · intro S m' q l mn qn hm hq hl hS hd e el N ret
    exact gi_mid2 B F X T hk hdp N hoc (hS _ hdc) (hS _ hca) (hS _ (hR _ hnn)) (hval _ hnn) (hval _ (hpost _ hq)) (hS _ (hR _ (hpre _ hm))) (hS _ (hR _ (hpost _ hq))) hd e ret
  · intro S m' p' q l mn qn pp pn hm hp hq hl hS hd e el N ret
    exact gi_mid B F X T hk hdp N hoc (hS _ hdc) (hS _ hca) (hS _ (hR _ hnn)) (hval _ hnn) (hval _ (hpost _ hq)) (hS _ (hR _ (hpre _ hm))) (hS _ (hR _ (hpost _ hq))) (hS _ (hR _ (hpre _ hp))) hd e ret
/-- a new node goes to the head of the chain -/
theorem ra_new (N : News h₀ L s.heap ((cd, cacheD xc (.ref dc) (mruV line) (lastA .none line) vsz vst) :: (n.d, nodeD n.x .none .none n.K n.V (n.C ga)) :: (seg ga .none line .none ++ R)))
  (hca : (ca, instObj 175 cd) ∈ R) (hR : ∀ x ∈ n :: line, (x.a, instObj 39 x.d) ∈ R) (hn : (cd :: n.d :: (line.map Node.d ++ Ads R)).Nodup)
  (ret : Back h₀ L m s Q .none ((cd, cacheD xc (.ref dc) (mruV (n :: line)) (lastA .none (n :: line)) vsz vst) :: (seg ga .none (n :: line) .none ++ R))) :
  wpAny (model PySem.Challenge.rw_iy0004_01.row.prog w) (ktrTop dp un gd cn cs L a ccd cl outer) (call (.ref 135) [.ref ca, .ref n.a]) Q E s := by
  have hRn : (Ads R).Nodup := by
    simp only [List.nodup_cons, List.nodup_append] at hn
    exact hn.2.2.2.1
  have hd : ∀ x ∈ line, x.d ≠ n.d := by
    intro x hx e
    refine (List.nodup_cons.mp (List.nodup_cons.mp hn).2).1 (List.mem_append_left _ (List.mem_map.mpr ⟨x, hx, e⟩))
  have hne : ∀ x ∈ line, @Ne Nat x.a n.a := fun x hx => inst_ne hRn (hR x (.tail _ hx)) (hR n (.head _)) (hd x hx)
  cases line with
  | nil => exact ra_nil B F X T hk hdp N (.tail _ hca) hn ret
  | cons x r =>
    obtain ⟨l, hl, el⟩ := lastA_cons r .none x
    have el' : lastA (.ref x.a) r = .ref l.a := el
    have el2 : lastA .none (n :: x :: r) = .ref l.a := el
    rw [el] at N
    rw [el2] at ret
    have hn' : (cd :: n.d :: x.d :: Ads (seg ga (.ref x.a) r .none ++ R)).Nodup := by
      rw [show Ads (seg ga (.ref x.a) r .none ++ R) = r.map Node.d ++ Ads R by rw [← ads_seg (ga := ga) r .none (.ref x.a)]; exact List.map_append]
      exact hn
    exact ra_fresh B F X T hk hdp N (List.mem_append_right _ hca) (List.mem_append_right _ (hR _ (.head _))) (List.mem_append_right _ (hR _ (.tail _ (.head _)))) (List.mem_append_right _ (hR _ (.tail _ hl))) hn' (hne _ hl) (hne _ (.head _)) ret
end
end
section
-- LRcA
open PySem PySem.W PySem.Calls PyProof.Rows
/-- what stands behind a node's cleanup: with the def's word (f) one more pair lies in the out list, else nothing has turned -/
noncomputable def Cleaned (f : Bool) (k v : Int) (tk tv : Tok) (ol : Addr) (us : List Value) (n : Nat) (S₀ : List (Addr × Obj)) (A : List Addr) (S' : List (Addr × Obj)) : Prop :=
  ∃ (X : List (Addr × Obj)) (us' : List Value) (n' : Nat), S' = X ++ (ol, listOf us'.toArray n') :: S₀ ∧
    ((f = false ∧ X = [] ∧ us' = us ∧ n' = n) ∨ (f = true ∧ ∃ t, X = [(t, tup2 (.int k tk) (.int v tv))] ∧ us' = us ++ [Value.ref t] ∧ n' = n + 1 ∧ ∀ q ∈ A ++ ol :: Ads S₀, q < t))
theorem Cleaned.nodup {f : Bool} {k v : Int} {tk tv : Tok} {ol : Addr} {us : List Value} {n : Nat} {S₀ S' : List (Addr × Obj)} {A : List Addr} (c : Cleaned f k v tk tv ol us n S₀ A S') (hn : (A ++ ol :: Ads S₀).Nodup) : (A ++ Ads S').Nodup := by
  obtain ⟨X, us', n', rfl, h⟩ := c
  rcases h with ⟨_, rfl, _⟩ | ⟨_, t, rfl, _, _, ht⟩
  · exact hn
  · exact List.perm_middle.nodup_iff.mpr (List.nodup_cons.mpr ⟨fun k => absurd (ht t k) (Nat.lt_irrefl _), hn⟩)
theorem Cleaned.inst {f : Bool} {k v : Int} {tk tv : Tok} {ol : Addr} {us : List Value} {n : Nat} {S₀ S' : List (Addr × Obj)} {A : List Addr} (c : Cleaned f k v tk tv ol us n S₀ A S') {y : Addr × Obj} (hy : y ∈ S₀) : y ∈ S' := by
  obtain ⟨X, us', n', rfl, h⟩ := c
  exact List.mem_append_right _ (.tail _ hy)
noncomputable abbrev CleanSpec (w : World) (p : Program) (loose : List Str) (mean : ExcName → Option Value) (mg mb : Str → Option Value) (na nd : Addr) (xn : N6) (f : Bool) (ga : Addr) (k v : Int) (tk tv : Tok) (ol : Addr) (us : List Value) (n : Nat) (S₀ : List (Addr × Obj)) : Prop :=
  ∀ (dp un : Nat) (gd : Option (List Code)) (cn : Str) (cs : Scope) (a : Addr) (ccd : Value) (cl : List (Str × Addr)) (outer : List Env) (A₀ : Around) (base h₀ : Heap) (L : Addr) (m : Str → Option Value) (s : Shared) (Q E : Value → Shared → Prop)
    (pp pn : Value) (C : List (Addr × Obj)),
    Below A₀ base outer h₀ → Fr h₀ L s.heap m → (hd.heap_39 w.params).In h₀ → News h₀ L s.heap ((nd, nodeD xn pp pn (.int k tk) (.int v tv) (if f then .ref ga else .none)) :: (C ++ (ol, listOf us.toArray n) :: S₀)) → Top p loose mean mg mb h₀ → cs.kind = .function → dp + 3 < recursionLimit →
    (nd :: Ads C ++ ol :: Ads S₀).Nodup →
    (∀ (S' : List (Addr × Obj)) (h' : Heap) (tk' : Nat), Cleaned f k v tk tv ol us n S₀ (nd :: Ads C) S' → Fr h₀ L h' m → News h₀ L h' ((nd, nodeD xn pp pn (.int k tk) .none .none) :: (C ++ S')) → Q .none { s with heap := h', toks := tk' }) →
    wpAny (model PySem.Challenge.rw_iy0004_01.row.prog w) (ktrTop dp un gd cn cs L a ccd cl outer) (call (.ref 36) [.ref na]) Q E s
theorem rc_any {w : World} {p : Program} {loose : List Str} {mean : ExcName → Option Value} {mg mb : Str → Option Value} {na nd ga ol : Addr} {xn : N6} {f : Bool} {k v : Int} {tk tv : Tok} {us : List Value} {n : Nat} {S₀ S₁ : List (Addr × Obj)} {gfd : FuncData} {goc : Value} {god : Option Addr} {gsl : Array (Option Value)}
    (hG : GoneSpec w p loose mean mg mb ga ol S₁) (h1 : (na, instObj 39 nd) ∈ S₀) (h2 : (ga, (⟨goc, god, .func gfd, gsl⟩ : Obj)) ∈ S₀) (h3 : ∀ x ∈ S₁, x ∈ S₀) (hl : us.length ≤ 4096) :
    CleanSpec w p loose mean mg mb na nd xn f ga k v tk tv ol us n S₀ := by
  intro dp un gd cn cs a ccd cl outer A₀ base h₀ L m s Q E pp pn C B F X N T hk hdp hn ret
  have eA : ∀ o : Obj, Ads (C ++ (ol, o) :: S₀) = Ads C ++ ol :: Ads S₀ := fun o => List.map_append
  cases f with
  | false =>
    refine rc_none B F X T hk hdp N (List.mem_append_right _ (.tail _ h1)) ((eA _).symm ▸ hn) fun h' tk' F' N' => ?_
    exact ret _ h' tk' ⟨[], us, n, rfl, .inl ⟨rfl, rfl, rfl, rfl⟩⟩ F' N'
  | true =>
    have hp : ∀ (o o' : Obj) z, z ∈ (ol, o') :: (nd, o) :: (C ++ S₀) → z ∈ (nd, o) :: (C ++ (ol, o') :: S₀) := by
      intro o o' z hz
      simp only [List.mem_cons, List.mem_append] at hz ⊢
      grind
    have hp' : ∀ (t : Addr) (u o o' : Obj) z, z ∈ (nd, o) :: (C ++ ([(t, u)] ++ (ol, o') :: S₀)) → z ∈ (t, u) :: (ol, o') :: (nd, o) :: (C ++ S₀) := by
      intro t u o o' z hz
      simp only [List.mem_cons, List.mem_append, List.not_mem_nil, or_false] at hz ⊢
      grind
    have hm : ∀ b, b ∈ nd :: Ads C ++ ol :: Ads S₀ → b ∈ ol :: nd :: Ads (C ++ S₀) := by
      intro b hb
      rw [show Ads (C ++ S₀) = Ads C ++ Ads S₀ from List.map_append]
      simp only [List.mem_cons, List.mem_append] at hb ⊢
      grind
    have hn' : (ol :: nd :: Ads (C ++ S₀)).Nodup := by
      rw [show Ads (C ++ S₀) = Ads C ++ Ads S₀ from List.map_append]
      exact (List.perm_middle (l₁ := nd :: Ads C)).nodup_iff.mp hn
    refine rc_gone B F X T hk hdp hG (kst_newsOf N (hp _ _)) (List.mem_append_right _ h1) (List.mem_append_right _ h2) (fun x hx => List.mem_append_right _ (h3 x hx)) hn' hl fun t ht h' tk' F' N' => ?_
    exact ret _ h' tk' ⟨_, _, _, rfl, .inr ⟨rfl, t, rfl, rfl, rfl, fun q hq => ht q (hm q hq)⟩⟩ F' (kst_newsOf N' (hp' t _ _ _))
end
section
-- LRmA
open PySem PySem.W PySem.Calls PyProof.Rows
theorem rules_LRmA0 : True := by
  k_with_none
  k_with "ne" => (refine neN ?_; (try dsimp only); first | assumption | (apply Ne.symm; assumption))
  k_with "tone" => (refine neN ?_; (try dsimp only); first | assumption | (apply Ne.symm; assumption))
  k_with "mem" => (first | assumption | exact mem_at 0 rfl | exact mem_at 1 rfl | exact mem_at 2 rfl | exact mem_at 3 rfl | exact mem_at 4 rfl | exact mem_at 5 rfl | exact mem_dr 1 (by assumption) | exact mem_dr 2 (by assumption) | exact mem_dr 3 (by assumption) | exact mem_dr 4 (by assumption) | exact mem_dr 5 (by assumption))
  k_with "getAttr ref" => (k_here; k_dflt ((first | (with_reducible refine' gN_p ?F1r ?X1r ?N1r ?h1r ?h2r ?v1r ?_) | (with_reducible refine' gN_nx ?F1r ?X1r ?N1r ?h1r ?h2r ?v1r ?_) | (with_reducible refine' gN_k ?F1r ?X1r ?N1r ?h1r ?h2r ?v1r ?_) | (with_reducible refine' gN_v ?F1r ?X1r ?N1r ?h1r ?h2r ?v1r ?_) | (with_reducible refine' gN_c ?F1r ?X1r ?N1r ?h1r ?h2r ?v1r ?_) | (with_reducible refine' gC_c ?F1r ?X1r ?N1r ?h1r ?h2r ?v1r ?_) | (with_reducible refine' gC_r ?F1r ?X1r ?N1r ?h1r ?h2r ?v1r ?_) | (with_reducible refine' gC_l ?F1r ?X1r ?N1r ?h1r ?h2r ?v1r ?_) | (with_reducible refine' gC_z ?F1r ?X1r ?N1r ?h1r ?h2r ?v1r ?_) | (with_reducible refine' gC_y ?F1r ?X1r ?N1r ?h1r ?h2r ?v1r ?_)); (case F1r => k_asm); (case X1r => k_asm); (case N1r => k_asm); (case h1r => k_mem); (case h2r => k_mem); (case v1r => k_handed); k_whole))
  k_with "setAttr ref" => (k_here; k_dflt ((first | (with_reducible refine' sN_p ?F1r ?X1r ?N1r ?h1r ?h2r ?U1r ?_) | (with_reducible refine' sN_nx ?F1r ?X1r ?N1r ?h1r ?h2r ?U1r ?_) | (with_reducible refine' sN_v ?F1r ?X1r ?N1r ?h1r ?h2r ?U1r ?_) | (with_reducible refine' sN_c ?F1r ?X1r ?N1r ?h1r ?h2r ?U1r ?_) | (with_reducible refine' sC_r ?F1r ?X1r ?N1r ?h1r ?h2r ?U1r ?_) | (with_reducible refine' sC_l ?F1r ?X1r ?N1r ?h1r ?h2r ?U1r ?_) | (with_reducible refine' sC_z ?F1r ?X1r ?N1r ?h1r ?h2r ?U1r ?_) | (with_reducible refine' sC_y ?F1r ?X1r ?N1r ?h1r ?h2r ?U1r ?_)); (case F1r => k_asm); (case X1r => k_asm); (case N1r => k_asm); (case h1r => k_mem); (case h2r => k_mem); (case U1r => (first | exact upd_nd 0 (by assumption) rfl | exact upd_nd 1 (by assumption) rfl | exact upd_nd 2 (by assumption) rfl | exact upd_nd 3 (by assumption) rfl | exact upd_nd 4 (by assumption) rfl | exact upd_nd 5 (by assumption) rfl | k_upd)); k_whole); (refine (?_ : let l9 := _; ∀ h', Fr _ _ h' _ → News _ _ h' l9 → _)); intro l9r h'r F'r N'r; (try k_sweep))
  k_with "truthy ref" => (k_here; k_dflt ((refine' tN ?F1r ?X1r ?N1r ?h1r ?h2r ?_); (case F1r => k_asm); (case X1r => k_asm); (case N1r => k_asm); (case h1r => k_mem); (case h2r => k_mem); k_whole))
  k_with "storeName" => (k_here; k_dflt (refine' storeX_L ?F1r ?N1r ?_ ?a1r ?b1r; (case F1r => k_asm); (case N1r => k_asm); (case a1r => rfl); (case b1r => rfl); k_whole); (refine (?_ : let m9 := _; ∀ h', Fr _ _ h' m9 → News _ _ h' _ → _)); intro m9r h'r F'r N'r; (try k_sweep))
  k_with "enter" => (refine' code_def ?k1r ?k2r ?k3r ?k4r ?k5r ?kAr ?kFr ?kKr ?k6r ?k7r ?k8r ?k9r ?kBr ?_ ?c2r ?c3r ?c4r ?c5r; (case kAr => exact rfl); (case kFr => exact rfl); (case kKr => first | exact rfl | assumption); (case k1r => k_asm); (case k2r => k_asm); (case k3r => k_asm); (case k4r => k_asm); (case k5r => k_asm); (case k6r => k_is); (case k7r => k_is); (case k8r => (first | exact room9 0 (by assumption) rfl | exact room9 1 (by assumption) rfl | exact room9 2 (by assumption) rfl | exact room9 3 (by assumption) rfl | exact room9 4 (by assumption) rfl | exact room9 5 (by assumption) rfl | exact room9 6 (by assumption) rfl | exact room9 7 (by assumption) rfl | exact room9 8 (by assumption) rfl | ktr_room)); (case k9r => first | exact BindsTo.of_eq rfl | exact binds_K (by k_in) rfl (by k_is) rfl rfl rfl); (case c5r => decide); (case kBr => exact locs rfl); (case c2r => exact rfl); (case c3r => exact rfl); (case c4r => exact rfl); k_whole; (refine (?_ : let m9 := _; ∀ g L h, Fr _ _ g _ → Fr _ _ h m9 → _)); intro m9r g'r L'r h'r FG'r F'r N'r B'r X'r T'r; (try dsimp only); (try k_fold); (refine (?_ : let e9 := _; let A9 := _; wpAny _ A9 (execs _ e9) _ _ _)); intro e9r A9r; (try ((with_reducible refine gen_tk ?_); intro tk9r)))
  k_with "subscriptTail" => (k_here; (with_reducible show wpAny _ _ (subscriptTail _ _ (Value.ref _) (Value.int _ _)) _ _ _); k_dflt (refine' kda_item (knd := PySem.intKind _ _) ?Nr ?mr ?dr (intKind_is _ _ _ _) ?vr ?_; (case Nr => k_asm); (case mr => k_mem); (case dr => assumption); (case vr => assumption)))
  k_with "call ref" => (k_here; k_dflt (refine wpAny_call ?_; refine' code_def ?k1r ?k2r ?k3r ?k4r ?k5r ?kAr ?kFr ?kKr ?k6r ?k7r ?k8r ?k9r ?kBr ?_ ?c2r ?c3r ?c4r ?c5r; (case kAr => exact rfl); (case kFr => exact rfl); (case kKr => first | exact rfl | assumption); (case k1r => k_asm); (case k2r => k_asm); (case k3r => k_asm); (case k4r => k_asm); (case k5r => k_asm); (case k6r => k_is); (case k7r => k_is); (case k8r => (first | exact room9 0 (by assumption) rfl | exact room9 1 (by assumption) rfl | exact room9 2 (by assumption) rfl | exact room9 3 (by assumption) rfl | exact room9 4 (by assumption) rfl | exact room9 5 (by assumption) rfl | exact room9 6 (by assumption) rfl | exact room9 7 (by assumption) rfl | exact room9 8 (by assumption) rfl | ktr_room)); (case k9r => first | exact BindsTo.of_eq rfl | exact binds_K (by k_in) rfl (by k_is) rfl rfl rfl); (case c5r => decide); (case kBr => exact locs rfl); (case c2r => exact rfl); (case c3r => exact rfl); (case c4r => exact rfl); k_whole; (refine (?_ : let m9 := _; ∀ g L h, Fr _ _ g _ → Fr _ _ h m9 → _)); intro m9r g'r L'r h'r FG'r F'r N'r B'r X'r T'r; (try dsimp only); (try k_fold); (refine (?_ : let e9 := _; let A9 := _; wpAny _ A9 (execs _ e9) _ _ _)); intro e9r A9r; (try ((with_reducible refine gen_tk ?_); intro tk9r))))
  trivial
section
variable {w : World} {p : Program} {loose : List Str} {mean : ExcName → Option Value} {mg mb : Str → Option Value}
  {dp un : Nat} {gd : Option (List Code)} {cn : Str} {cs : Scope} {a : Addr} {ccd : Value} {cl : List (Str × Addr)} {outer : List Env} {A₀ : Around} {base h₀ : Heap} {L : Addr} {m : Str → Option Value} {s : Shared} {Q E : Value → Shared → Prop}
  (B : Below A₀ base outer h₀) (F : Fr h₀ L s.heap m) (X : (hd.heap_39 w.params).In h₀) (T : Top p loose mean mg mb h₀) (hk : cs.kind = .function) (hdp : dp + 5 < recursionLimit)
include B F X T hk hdp
theorem rules_LRmA1 : True := by
  k_with "getMethod ref" => (k_here; (with_reducible show wpAny _ _ (getMethod (Value.ref _) (Str.ofString "pop") _) _ _ _); k_dflt (refine' kob_method (knd := PySem.intKind _ _) PySem.F.slot_dict_pop PySem.F.type_dict_pop ?Nr ?mr ?dr ?_; (case Nr => k_asm); (case mr => k_mem); (case dr => assumption)))
  k_with "call builtin:dict.pop" => (k_here; (with_reducible show wpAny _ _ (call (Value.builtin "dict.pop") [Value.ref _, Value.int _ _]) _ _ _); k_dflt (refine' kob_pop (knd := PySem.intKind _ _) (more := []) ?Fr ?Nr ?Ur ?dr (intKind_is _ _ _ _) (.inl rfl) (by rfl) (PySem.F.args_dict_pop_2 _ _) ?lr ?zr ?_; (case Fr => k_asm); (case Nr => k_asm); (case Ur => (first | exact updF_nd 0 (by assumption) rfl | exact updF_nd 1 (by assumption) rfl | exact updF_nd 2 (by assumption) rfl | exact updF_nd 3 (by assumption) rfl | exact updF_nd 4 (by assumption) rfl | exact updF_nd 5 (by assumption) rfl | k_updF)); (case dr => assumption); (case lr => assumption); (case zr => assumption)); intro h'r o'r F'r N'r hd'r; (try dsimp only at N'r); (let l7r := newsOf N'r); (have N7r : News _ _ _ l7r := N'r))
  trivial
variable {ca cd na nd ga ol dc pa pd : Addr} {xc xn xp : N6} {pp pn pk pv pc mru vsz vst : Value} {S₀ : List (Addr × Obj)} {k v : Int} {tk tv : Tok} {us : List Value} {n : Nat} {oc : Obj} {kvs : List (Int × Value)} {f : Bool}
theorem rules_LRmA2 : True := by
  k_with "call ref" => (k_here; (with_reducible show wpAny _ _ (call (Value.ref 36) _ _) _ _ _); (rename CleanSpec _ _ _ _ _ _ _ _ _ _ _ _ _ _ _ _ _ _ _ => hC9r); k_dflt (refine' hC9r _ _ _ _ _ _ _ _ _ _ _ _ _ _ _ _ _ _ _ [_, _] ?g1r ?g2r ?g3r ?g4r ?g5r ?g6r ?g7r ?g8r ?_; (case g1r => k_asm); (case g2r => k_asm); (case g3r => k_asm); (case g4r => k_asm); (case g5r => k_asm); (case g6r => rfl); (case g7r => (first | exact room9 0 (by assumption) rfl | exact room9 1 (by assumption) rfl | exact room9 2 (by assumption) rfl | exact room9 3 (by assumption) rfl | exact room9 4 (by assumption) rfl | exact room9 5 (by assumption) rfl | exact room9 6 (by assumption) rfl | exact room9 7 (by assumption) rfl | exact room9 8 (by assumption) rfl | ktr_room)); (case g8r => exact hn)); intro S9r h9r tk9r c9r F9r N9r; k_dflt (replace N9r : News _ _ _ ((nd, _) :: (cd, _) :: (dc, _) :: S9r) := N9r); k_dflt (have o9r : (nd :: cd :: dc :: Ads S9r).Nodup := Cleaned.nodup c9r hn); (let l7r := newsOf N9r); (have N7r : News _ _ _ l7r := N9r); (have ih1r := Cleaned.inst c9r h1); (have ih2r := Cleaned.inst c9r h2); (try dsimp only); (try k_fold))
  trivial
set_option maxRecDepth 100000 in
set_option maxHeartbeats 8000000 in
theorem rl_one (N : News h₀ L s.heap ((nd, nodeD xn .none .none (.int k tk) (.int v tv) (if f then .ref ga else .none)) :: (cd, cacheD xc (.ref dc) (.ref na) (.ref na) vsz vst) :: (dc, oc) :: (ol, listOf us.toArray n) :: S₀))
  (hC : CleanSpec w p loose mean mg mb na nd xn f ga k v tk tv ol us n S₀) (hoc : oc.IsDictOf (intKind PySem.Challenge.rw_iy0004_01.row.prog w) kvs) (hv : valueAt kvs k = some (Value.ref na)) (hz : kvs.length ≤ sizeLine) (h1 : (ca, instObj 175 cd) ∈ S₀) (h2 : (na, instObj 39 nd) ∈ S₀) (hn : (nd :: cd :: dc :: ol :: Ads S₀).Nodup)
  (ret : ∀ (oc' : Obj) (S' : List (Addr × Obj)), oc'.IsDictOf (intKind PySem.Challenge.rw_iy0004_01.row.prog w) (without kvs k) → Cleaned f k v tk tv ol us n S₀ [nd, cd, dc] S' → Back h₀ L m s Q .none ((nd, nodeD xn .none .none (.int k tk) .none .none) :: (cd, cacheD xc (.ref dc) .none .none vsz vst) :: (dc, oc') :: S')) :
  wpAny (model PySem.Challenge.rw_iy0004_01.row.prog w) (ktrTop dp un gd cn cs L a ccd cl outer) (call (.ref 149) [.ref ca]) Q E s := by
  revert X; k_fill; intro X
  let l9 := newsOf N
  have N9 : News _ _ _ l9 := N
  have h1' : (ca, instObj 175 cd) ∈ (ol, listOf us.toArray n) :: S₀ := .tail _ h1
  have h2' : (na, instObj 39 nd) ∈ (ol, listOf us.toArray n) :: S₀ := .tail _ h2
  refine wpAny_call ?_
  k_dflt ktr_enter
  k_steps
  all_goals (first | (refine' ret _ _ ?zd ?ze _ _ ?zb ?zc; (case zc => assumption); (case zb => assumption); (case zd => assumption); (case ze => assumption)) | w_report)
theorem rules_LRmA3 : True := by
  k_with "call ref" => (k_here; (with_reducible show wpAny _ _ (call (Value.ref 36) _ _) _ _ _); (rename CleanSpec _ _ _ _ _ _ _ _ _ _ _ _ _ _ _ _ _ _ _ => hC9r); k_dflt (refine' hC9r _ _ _ _ _ _ _ _ _ _ _ _ _ _ _ _ _ _ _ [_, _, _] ?g1r ?g2r ?g3r ?g4r ?g5r ?g6r ?g7r ?g8r ?_; (case g1r => k_asm); (case g2r => k_asm); (case g3r => k_asm); (case g4r => k_asm); (case g5r => k_asm); (case g6r => rfl); (case g7r => (first | exact room9 0 (by assumption) rfl | exact room9 1 (by assumption) rfl | exact room9 2 (by assumption) rfl | exact room9 3 (by assumption) rfl | exact room9 4 (by assumption) rfl | exact room9 5 (by assumption) rfl | exact room9 6 (by assumption) rfl | exact room9 7 (by assumption) rfl | exact room9 8 (by assumption) rfl | ktr_room)); (case g8r => exact hn)); intro S9r h9r tk9r c9r F9r N9r; k_dflt (replace N9r : News _ _ _ ((nd, _) :: (cd, _) :: (dc, _) :: (pd, _) :: S9r) := N9r); k_dflt (have o9r : (nd :: cd :: dc :: pd :: Ads S9r).Nodup := Cleaned.nodup c9r hn); (let l7r := newsOf N9r); (have N7r : News _ _ _ l7r := N9r); (have ih1r := Cleaned.inst c9r h1); (have ih2r := Cleaned.inst c9r h2); (have ih3r := Cleaned.inst c9r h3); (try dsimp only); (try k_fold))
  trivial
set_option maxRecDepth 100000 in
set_option maxHeartbeats 8000000 in
theorem rl_prev (N : News h₀ L s.heap ((nd, nodeD xn (.ref pa) .none (.int k tk) (.int v tv) (if f then .ref ga else .none)) :: (cd, cacheD xc (.ref dc) mru (.ref na) vsz vst) :: (dc, oc) :: (pd, nodeD xp pp pn pk pv pc) :: (ol, listOf us.toArray n) :: S₀))
  (hC : CleanSpec w p loose mean mg mb na nd xn f ga k v tk tv ol us n S₀) (hoc : oc.IsDictOf (intKind PySem.Challenge.rw_iy0004_01.row.prog w) kvs) (hv : valueAt kvs k = some (Value.ref na)) (hz : kvs.length ≤ sizeLine) (h1 : (ca, instObj 175 cd) ∈ S₀) (h2 : (na, instObj 39 nd) ∈ S₀) (h3 : (pa, instObj 39 pd) ∈ S₀) (hn : (nd :: cd :: dc :: pd :: ol :: Ads S₀).Nodup)
  (ret : ∀ (oc' : Obj) (S' : List (Addr × Obj)), oc'.IsDictOf (intKind PySem.Challenge.rw_iy0004_01.row.prog w) (without kvs k) → Cleaned f k v tk tv ol us n S₀ [nd, cd, dc, pd] S' → Back h₀ L m s Q .none ((nd, nodeD xn .none .none (.int k tk) .none .none) :: (cd, cacheD xc (.ref dc) mru (.ref pa) vsz vst) :: (dc, oc') :: (pd, nodeD xp pp .none pk pv pc) :: S')) :
  wpAny (model PySem.Challenge.rw_iy0004_01.row.prog w) (ktrTop dp un gd cn cs L a ccd cl outer) (call (.ref 149) [.ref ca]) Q E s := by
  revert X; k_fill; intro X
  let l9 := newsOf N
  have N9 : News _ _ _ l9 := N
  have h1' : (ca, instObj 175 cd) ∈ (ol, listOf us.toArray n) :: S₀ := .tail _ h1
  have h2' : (na, instObj 39 nd) ∈ (ol, listOf us.toArray n) :: S₀ := .tail _ h2
  have h3' : (pa, instObj 39 pd) ∈ (ol, listOf us.toArray n) :: S₀ := .tail _ h3
  refine wpAny_call ?_
  k_dflt ktr_enter
  k_steps
  all_goals (first | (refine' ret _ _ ?zd ?ze _ _ ?zb ?zc; (case zc => assumption); (case zb => assumption); (case zd => assumption); (case ze => assumption)) | w_report)
end
end
section
-- LRem
open PySem PySem.W PySem.Calls PyProof.Rows
noncomputable def absL (l : List Node) : List (Int × Int × Bool) := l.map fun n => (n.k, n.v, n.f)
noncomputable def absO (l : List Tup) : List (Int × Int) := l.map fun u => (u.k, u.v)
noncomputable def goneOf (n : Int × Int × Bool) : List (Int × Int) := if n.2.2 then [(n.1, n.2.1)] else []
noncomputable def goneAll (l : List (Int × Int × Bool)) : List (Int × Int) := (l.reverse.map goneOf).flatten
/-- the state after some of the last nodes have gone -/
structure Cut (st st' : CSt) (d : List Node) : Prop where
  hline : st.line = st'.line ++ d
  hos : absO st'.os = absO st.os ++ goneAll (absL d)
  hsize : st'.size = st.size
  hstay : st'.stay = st.stay
theorem goneAll_append (d d' : List Node) : goneAll (absL (d' ++ d)) = goneAll (absL d) ++ goneAll (absL d') := by
  simp [goneAll, absL]
theorem Cut.refl (st : CSt) : Cut st st [] := ⟨by simp, by simp [goneAll, absL], rfl, rfl⟩
theorem Cut.trans {a b c : CSt} {d d' : List Node} (x : Cut a b d) (y : Cut b c d') : Cut a c (d' ++ d) :=
  ⟨by rw [x.hline, y.hline, List.append_assoc], by rw [y.hos, x.hos, goneAll_append, List.append_assoc], y.hsize.trans x.hsize, y.hstay.trans x.hstay⟩
theorem without_perm {kvs : List (Int × Value)} {l : List Node} {n : Node} (h : kvs.Perm ((l ++ [n]).map pr)) (hk : ((l ++ [n]).map Node.k).Nodup) : (without kvs n.k).Perm (l.map pr) := by
  have h1 := h.filter fun kv => decide (kv.1 ≠ n.k)
  have h2 : ((l ++ [n]).map pr).filter (fun kv => decide (kv.1 ≠ n.k)) = l.map pr := by
    have hn : ∀ x ∈ l, x.k ≠ n.k := by
      intro x hx e
      rw [List.map_append, List.nodup_append] at hk
      exact hk.2.2 x.k (List.mem_map.mpr ⟨x, hx, rfl⟩) n.k (by simp) e
    rw [List.map_append, List.filter_append]
    rw [List.filter_eq_self.mpr (by
      intro y hy
      obtain ⟨x, hx, rfl⟩ := List.mem_map.mp hy
      simpa using hn x hx)]
    simp
  rw [h2] at h1
  exact h1
theorem Good.rem {w : World} {c : CFix} {s : CSt} {R X : List (Addr × Obj)} (G : Good w c s R) {l : List Node} {n : Node} (e : s.line = l ++ [n]) {oc' : Obj} (ho : oc'.IsDictOf (intKind PySem.Challenge.rw_iy0004_01.row.prog w) (without s.kvs n.k)) {os' : List Tup} {nn' : Nat}
    (hos : ∀ u ∈ os', (u.t, u.obj) ∈ X ++ R) (hl : os'.length ≤ s.os.length + 1) (hnd : (c.ol :: c.cd :: c.dc :: (l.map Node.d ++ Ads (X ++ R))).Nodup) :
    Good w c { s with line := l, oc := oc', kvs := without s.kvs n.k, os := os', nn := nn' } (X ++ R) := by
  have hk := G.hkeys
  have hkv := G.hkv
  have hr := G.hroom
  have hin := G.hin
  rw [e] at hk hkv hr hin
  have hX : ∀ x ∈ R, x ∈ X ++ R := fun x hx => List.mem_append_right _ hx
  refine ⟨ho, without_perm hkv hk, ?_, hX _ G.hca, fun x hx => hX _ (hin x (List.mem_append_left _ hx)), hos, hnd, fun x hx => hX _ (G.hS x hx), G.hdc, G.hga, ?_⟩
  · rw [List.map_append, List.nodup_append] at hk
    exact hk.1
  · simp only [List.length_append, List.length_cons, List.length_nil] at hr ⊢
    lia
section
variable {α : Type} {o c d n p t g : α} {P R : List α}
variable {X : List α}
theorem mR1 : ∀ z, z ∈ n :: c :: d :: o :: R → z ∈ o :: c :: d :: n :: R := by
  intro z hz; simp only [List.mem_cons] at *; grind
theorem mR2 : ∀ z, z ∈ o :: c :: d :: ((X ++ [g]) ++ R) → z ∈ g :: c :: d :: (X ++ o :: R) := by
  intro z hz; simp only [List.mem_cons, List.mem_append, List.not_mem_nil, or_false] at *; grind
theorem mR3 : ∀ z, z ∈ n :: c :: d :: p :: o :: (P ++ R) → z ∈ o :: c :: d :: (P ++ p :: n :: R) := by
  intro z hz; simp only [List.mem_cons, List.mem_append] at *; grind
theorem mR4 : ∀ z, z ∈ o :: c :: d :: (P ++ p :: (X ++ g :: R)) → z ∈ g :: c :: d :: p :: (X ++ o :: (P ++ R)) := by
  intro z hz; simp only [List.mem_cons, List.mem_append] at *; grind
end
open PySem PySem.W PySem.Calls PyProof.Rows
theorem rules_LRem0 : True := by
  k_with_none
  k_with "ne" => (refine neN ?_; (try dsimp only); first | assumption | (apply Ne.symm; assumption))
  k_with "tone" => (refine neN ?_; (try dsimp only); first | assumption | (apply Ne.symm; assumption))
  k_with "mem" => assumption
  k_with "subscriptTail" => (k_here; (with_reducible show wpAny _ _ (subscriptTail _ _ (Value.ref _) (Value.int _ _)) _ _ _); k_dflt (refine' kda_item (knd := PySem.intKind _ _) ?Nr ?mr ?dr (intKind_is _ _ _ _) ?vr ?_; (case Nr => k_asm); (case mr => k_mem); (case dr => assumption); (case vr => assumption)))
  k_with "call ref" => (k_here; k_dflt (refine wpAny_call ?_; refine' code_def ?k1r ?k2r ?k3r ?k4r ?k5r ?kAr ?kFr ?kKr ?k6r ?k7r ?k8r ?k9r ?kBr ?_ ?c2r ?c3r ?c4r ?c5r; (case kAr => exact rfl); (case kFr => exact rfl); (case kKr => first | exact rfl | assumption); (case k1r => k_asm); (case k2r => k_asm); (case k3r => k_asm); (case k4r => k_asm); (case k5r => k_asm); (case k6r => k_is); (case k7r => k_is); (case k8r => ktr_room); (case k9r => first | exact BindsTo.of_eq rfl | exact binds_K (by k_in) rfl (by k_is) rfl rfl rfl); (case c5r => decide); (case kBr => exact locs rfl); (case c2r => exact rfl); (case c3r => exact rfl); (case c4r => exact rfl); k_whole; intro g'r L'r h'r FG'r F'r N'r B'r X'r T'r; (try dsimp only); (try k_fold)))
  trivial
/-- the out list and the ledger behind a cleanup, as the cache's state has them -/
theorem Cleaned.fin {n : Node} {ol : Addr} {st : CSt} {R S₀ S' : List (Addr × Obj)} {A : List Addr} (cl : Cleaned n.f n.k n.v n.kt n.vt ol (refsOf st.os) st.nn S₀ A S') (hos : ∀ u ∈ st.os, (u.t, u.obj) ∈ R) :
    ∃ (X : List (Addr × Obj)) (os' : List Tup) (nn' : Nat), S' = X ++ (ol, listOf (refsOf os').toArray nn') :: S₀ ∧ absO os' = absO st.os ++ goneAll (absL [n]) ∧ os'.length ≤ st.os.length + 1 ∧ (∀ u ∈ os', (u.t, u.obj) ∈ X ++ R) ∧
      (∀ D : List Addr, D.Nodup → (∀ b ∈ D, b ∈ A ++ ol :: Ads S₀) → (Ads X ++ D).Nodup) := by
  obtain ⟨X, us', n', rfl, ⟨hf, rfl, rfl, rfl⟩ | ⟨hf, t, rfl, rfl, rfl, ht⟩⟩ := cl
  · exact ⟨[], st.os, st.nn, rfl, by simp [goneAll, absL, goneOf, hf], Nat.le_succ _, hos, fun D hD _ => hD⟩
  · refine ⟨[(t, tup2 (.int n.k n.kt) (.int n.v n.vt))], st.os ++ [⟨t, n.k, n.kt, n.v, n.vt⟩], st.nn + 1, ?_, by simp [goneAll, absL, goneOf, hf, absO], by simp, fun u hu => ?_, fun D hD hs => ?_⟩
    · simp only [refsOf, List.map_append, List.map_cons, List.map_nil]
    · rcases List.mem_append.mp hu with h | h
      · exact List.mem_append_right _ (hos u h)
      · rw [List.mem_singleton.mp h]; exact .head _
    · exact List.nodup_cons.mpr ⟨fun hm => absurd (ht t (hs t hm)) (Nat.lt_irrefl t), hD⟩
section
variable {w : World} {p : Program} {loose : List Str} {mean : ExcName → Option Value} {mg mb : Str → Option Value}
  {dp un : Nat} {gd : Option (List Code)} {cn : Str} {cs : Scope} {a : Addr} {ccd : Value} {cl : List (Str × Addr)} {outer : List Env} {A₀ : Around} {base h₀ : Heap} {L : Addr} {m : Str → Option Value} {s : Shared} {Q E : Value → Shared → Prop}
  (B : Below A₀ base outer h₀) (F : Fr h₀ L s.heap m) (X : (hd.heap_39 w.params).In h₀) (T : Top p loose mean mg mb h₀) (hk : cs.kind = .function) (hdp : dp + 5 < recursionLimit)
include B F X T hk hdp
variable {c : CFix} {st : CSt} {R : List (Addr × Obj)}
theorem rl_ok {l : List Node} {n : Node} (N : News h₀ L s.heap (Led c st R)) (G : Good w c st R) (hl : st.line = l ++ [n]) (hG : GoneSpec w p loose mean mg mb c.ga c.ol c.S₀)
  (ret : ∀ (st' : CSt) (X : List (Addr × Obj)), Cut st st' [n] → Good w c st' (X ++ R) → Back h₀ L m s Q .none (Led c st' (X ++ R))) :
  wpAny (model PySem.Challenge.rw_iy0004_01.row.prog w) (ktrTop dp un gd cn cs L a ccd cl outer) (call (.ref 149) [.ref c.ca]) Q E s := by
  have hn : n ∈ st.line := by rw [hl]; simp
  have hv := G.val hn
  have hz : st.kvs.length ≤ sizeLine := by
    have h1 := G.len
    have h2 := G.hroom
    rw [sizeLine_eq]; lia
  have hnd := G.hnd
  have hin := G.hin
  rw [hl] at hnd hin
  obtain ⟨goc, god, gfd, gsl, hga⟩ := G.hga
  have hos' : ∀ X, ∀ u ∈ st.os, (u.t, u.obj) ∈ X ++ R := fun X u hu => List.mem_append_right _ (G.hos u hu)
  unfold Led at N
  rw [hl] at N
  have hlen : (refsOf st.os).length ≤ 4096 := by rw [refsOf, List.length_map]; exact Nat.le_trans (Nat.le_add_right _ _) G.hroom
  have fin : ∀ (oc' : Obj) (os' : List Tup) (nn' : Nat) (X : List (Addr × Obj)), oc'.IsDictOf (intKind PySem.Challenge.rw_iy0004_01.row.prog w) (without st.kvs n.k) → (∀ u ∈ os', (u.t, u.obj) ∈ X ++ R) → os'.length ≤ st.os.length + 1 →
      (Ads X ++ (c.ol :: c.cd :: c.dc :: ((l ++ [n]).map Node.d ++ Ads R))).Nodup → Good w c { st with line := l, oc := oc', kvs := without st.kvs n.k, os := os', nn := nn' } ((X ++ [(n.d, nodeD n.x .none .none n.K .none .none)]) ++ R) := fun oc' os' nn' X ho hos hle hx =>
    G.rem hl ho (fun u hu => by
      rcases List.mem_append.mp (hos u hu) with h | h
      · exact List.mem_append_left _ (List.mem_append_left _ h)
      · exact List.mem_append_right _ h) hle (nodup_perm hx fun y => by
      simp only [Ads, List.map_append, List.cons_append, List.nil_append, List.map_cons, List.map_nil, List.count_cons, List.count_append, List.count_nil]; lia)
  rcases List.eq_nil_or_concat l with rfl | ⟨l', q, rfl⟩
  · simp only [List.nil_append, seg, lastA, mruV, nxt_nil, List.cons_append] at N
    refine rl_one (f := n.f) (S₀ := R) B F X T hk hdp (kst_newsOf N mR1) (rc_any hG (hin n (by simp)) (G.hS _ hga) G.hS hlen) G.hoc hv hz G.hca (hin n (by simp)) ?_ ?_
    · refine nodup_perm hnd fun y => ?_
      simp only [List.map_cons, List.map_nil, List.cons_append, List.nil_append, List.count_cons]; lia
    · intro oc' S' ho cl h' tk' F' N'
      obtain ⟨X, os', nn', rfl, hab, hle, hos, hx⟩ := cl.fin (st := st) (R := R) G.hos
      refine ret { st with line := [], oc := oc', kvs := without st.kvs n.k, os := os', nn := nn' } _ ⟨hl, hab, rfl, rfl⟩ (fin oc' os' nn' X ho hos hle (hx _ hnd fun b hb => ?_)) h' tk' F' (kst_newsOf N' mR2)
      simp only [List.map_cons, List.map_nil, List.cons_append, List.nil_append, List.mem_cons] at hb ⊢
      grind
  · simp only [List.concat_eq_append] at hl hnd hin N fin ret
    have e : l' ++ [q] ++ [n] = l' ++ q :: [n] := by simp
    rw [e] at N hnd hin fin
    simp only [List.nil_append, seg, seg_append, lastA_append, lastA, nxt_nil, nxt_cons, List.cons_append, List.append_assoc] at N
    have eA : Ads (seg c.ga .none l' q.K ++ R) = l'.map Node.d ++ Ads R := by rw [← ads_seg (ga := c.ga) l' q.K .none]; simp only [Ads, List.map_append]
    refine rl_prev (f := n.f) (S₀ := seg c.ga .none l' q.K ++ R) B F X T hk hdp (kst_newsOf N mR3) (rc_any hG (List.mem_append_right _ (hin n (by simp))) (List.mem_append_right _ (G.hS _ hga)) (fun x hx => List.mem_append_right _ (G.hS x hx)) hlen) G.hoc hv hz (List.mem_append_right _ G.hca) (List.mem_append_right _ (hin n (by simp))) (List.mem_append_right _ (hin q (by simp))) ?_ ?_
    · refine nodup_perm hnd fun y => ?_
      rw [eA]
      simp only [List.map_append, List.map_cons, List.map_nil, List.count_cons, List.count_append, List.count_nil]; lia
    · intro oc' S' ho cl h' tk' F' N'
      obtain ⟨X, os', nn', rfl, hab, hle, hos, hx⟩ := cl.fin (st := st) (R := R) G.hos
      rw [eA] at hx
      have em : mruV (l' ++ q :: [n]) = mruV (l' ++ [q]) := by cases l' <;> rfl
      rw [em] at N'
      refine ret { st with line := l' ++ [q], oc := oc', kvs := without st.kvs n.k, os := os', nn := nn' } _ ⟨hl, hab, rfl, rfl⟩ (fin oc' os' nn' X ho hos hle (hx _ hnd fun b hb => ?_)) h' tk' F' (kst_newsOf N' ?_)
      · simp only [List.map_append, List.map_cons, List.map_nil, List.cons_append, List.nil_append, List.mem_cons, List.mem_append] at hb ⊢
        grind
      · unfold Led
        simp only [List.nil_append, seg, seg_append, lastA_append, lastA, nxt_nil, nxt_cons, List.cons_append, List.append_assoc]
        exact mR4
end
end
section
-- LCl
open PySem PySem.W PySem.Calls PyProof.Rows
theorem rules_LCl0 : True := by
  k_with_none
  k_with "ne" => (refine neN ?_; (try dsimp only); first | assumption | (apply Ne.symm; assumption))
  k_with "tone" => (refine neN ?_; (try dsimp only); first | assumption | (apply Ne.symm; assumption))
  k_with "mem" => (first | assumption | exact mem_at 0 rfl | exact mem_at 1 rfl | exact mem_at 2 rfl | exact mem_at 3 rfl | exact mem_at 4 rfl | exact mem_at 5 rfl | exact mem_dr 1 (by assumption) | exact mem_dr 2 (by assumption) | exact mem_dr 3 (by assumption) | exact mem_dr 4 (by assumption) | exact mem_dr 5 (by assumption))
  k_with "getAttr ref" => (k_here; k_dflt ((first | (with_reducible refine' gN_p ?F1r ?X1r ?N1r ?h1r ?h2r ?v1r ?_) | (with_reducible refine' gN_nx ?F1r ?X1r ?N1r ?h1r ?h2r ?v1r ?_) | (with_reducible refine' gN_k ?F1r ?X1r ?N1r ?h1r ?h2r ?v1r ?_) | (with_reducible refine' gN_v ?F1r ?X1r ?N1r ?h1r ?h2r ?v1r ?_) | (with_reducible refine' gN_c ?F1r ?X1r ?N1r ?h1r ?h2r ?v1r ?_) | (with_reducible refine' gC_c ?F1r ?X1r ?N1r ?h1r ?h2r ?v1r ?_) | (with_reducible refine' gC_r ?F1r ?X1r ?N1r ?h1r ?h2r ?v1r ?_) | (with_reducible refine' gC_l ?F1r ?X1r ?N1r ?h1r ?h2r ?v1r ?_) | (with_reducible refine' gC_z ?F1r ?X1r ?N1r ?h1r ?h2r ?v1r ?_) | (with_reducible refine' gC_y ?F1r ?X1r ?N1r ?h1r ?h2r ?v1r ?_)); (case F1r => k_asm); (case X1r => k_asm); (case N1r => k_asm); (case h1r => k_mem); (case h2r => k_mem); (case v1r => k_handed); k_whole))
  k_with "setAttr ref" => (k_here; k_dflt (first | ((first | (with_reducible refine' sN_p ?F1r ?X1r ?N1r ?h1r ?h2r ?U1r ?_) | (with_reducible refine' sN_nx ?F1r ?X1r ?N1r ?h1r ?h2r ?U1r ?_) | (with_reducible refine' sN_v ?F1r ?X1r ?N1r ?h1r ?h2r ?U1r ?_) | (with_reducible refine' sN_c ?F1r ?X1r ?N1r ?h1r ?h2r ?U1r ?_) | (with_reducible refine' sC_r ?F1r ?X1r ?N1r ?h1r ?h2r ?U1r ?_) | (with_reducible refine' sC_l ?F1r ?X1r ?N1r ?h1r ?h2r ?U1r ?_) | (with_reducible refine' sC_z ?F1r ?X1r ?N1r ?h1r ?h2r ?U1r ?_) | (with_reducible refine' sC_y ?F1r ?X1r ?N1r ?h1r ?h2r ?U1r ?_)); (case F1r => k_asm); (case X1r => k_asm); (case N1r => k_asm); (case h1r => k_mem); (case h2r => k_mem); (case U1r => (first | exact upd_nd 0 (by assumption) rfl | exact upd_nd 1 (by assumption) rfl | exact upd_nd 2 (by assumption) rfl | exact upd_nd 3 (by assumption) rfl | exact upd_nd 4 (by assumption) rfl | exact upd_nd 5 (by assumption) rfl | k_upd)); k_whole) | (refine' set_dict ?k1r ?k2r ?k3r ?k4r ?k5r ?k6r ?k7r ?k8r ?k9r ?k10r ?k11r ?k12r ?k13r ?_; (case k1r => k_asm); (case k2r => k_asm); (case k3r => k_asm); (case k4r => k_inst); (case k5r => exact rfl); (case k6r => k_is); (case k7r => k_is); (case k8r => k_is); (case k9r => k_is); (case k10r => k_get); (case k11r => k_put); (case k12r => (first | exact upd_nd 0 (by assumption) rfl | exact upd_nd 1 (by assumption) rfl | exact upd_nd 2 (by assumption) rfl | exact upd_nd 3 (by assumption) rfl | exact upd_nd 4 (by assumption) rfl | exact upd_nd 5 (by assumption) rfl | k_upd)); (case k13r => exact Nat.le_of_ble_eq_true rfl); k_whole)); (refine (?_ : let l9 := _; ∀ h', Fr _ _ h' _ → News _ _ h' l9 → _)); intro l9r h'r F'r N'r; (try k_sweep))
  k_with "truthy ref" => (k_here; k_dflt ((refine' tN ?F1r ?X1r ?N1r ?h1r ?h2r ?_); (case F1r => k_asm); (case X1r => k_asm); (case N1r => k_asm); (case h1r => k_mem); (case h2r => k_mem); k_whole))
  k_with "storeName" => (k_here; k_dflt (refine' storeX_L ?F1r ?N1r ?_ ?a1r ?b1r; (case F1r => k_asm); (case N1r => k_asm); (case a1r => rfl); (case b1r => rfl); k_whole); (refine (?_ : let m9 := _; ∀ h', Fr _ _ h' m9 → News _ _ h' _ → _)); intro m9r h'r F'r N'r; (try k_sweep))
  k_with "subscriptTail" => (k_here; (with_reducible show wpAny _ _ (subscriptTail _ _ (Value.ref _) (Value.int _ _)) _ _ _); k_dflt (refine' kda_item (knd := PySem.intKind _ _) ?Nr ?mr ?dr (intKind_is _ _ _ _) ?vr ?_; (case Nr => k_asm); (case mr => k_mem); (case dr => assumption); (case vr => assumption)))
  k_with "call ref" => (k_here; k_dflt (refine wpAny_call ?_; refine' code_def ?k1r ?k2r ?k3r ?k4r ?k5r ?kAr ?kFr ?kKr ?k6r ?k7r ?k8r ?k9r ?kBr ?_ ?c2r ?c3r ?c4r ?c5r; (case kAr => exact rfl); (case kFr => exact rfl); (case kKr => first | exact rfl | assumption); (case k1r => k_asm); (case k2r => k_asm); (case k3r => k_asm); (case k4r => k_asm); (case k5r => k_asm); (case k6r => k_is); (case k7r => k_is); (case k8r => (first | exact room9 0 (by assumption) rfl | exact room9 1 (by assumption) rfl | exact room9 2 (by assumption) rfl | exact room9 3 (by assumption) rfl | exact room9 4 (by assumption) rfl | exact room9 5 (by assumption) rfl | exact room9 6 (by assumption) rfl | exact room9 7 (by assumption) rfl | exact room9 8 (by assumption) rfl | ktr_room)); (case k9r => first | exact BindsTo.of_eq rfl | exact binds_K (by k_in) rfl (by k_is) rfl rfl rfl); (case c5r => decide); (case kBr => exact locs rfl); (case c2r => exact rfl); (case c3r => exact rfl); (case c4r => exact rfl); k_whole; (refine (?_ : let m9 := _; ∀ g L h, Fr _ _ g _ → Fr _ _ h m9 → _)); intro m9r g'r L'r h'r FG'r F'r N'r B'r X'r T'r; (try dsimp only); (try k_fold); (refine (?_ : let e9 := _; let A9 := _; wpAny _ A9 (execs _ e9) _ _ _)); intro e9r A9r; (try ((with_reducible refine gen_tk ?_); intro tk9r))))
  trivial
section
variable {w : World} {p : Program} {loose : List Str} {mean : ExcName → Option Value} {mg mb : Str → Option Value}
  {dp un : Nat} {gd : Option (List Code)} {cn : Str} {cs : Scope} {a : Addr} {ccd : Value} {cl : List (Str × Addr)} {outer : List Env} {A₀ : Around} {base h₀ : Heap} {L : Addr} {m : Str → Option Value} {s : Shared} {Q E : Value → Shared → Prop}
  (B : Below A₀ base outer h₀) (F : Fr h₀ L s.heap m) (X : (hd.heap_39 w.params).In h₀) (T : Top p loose mean mg mb h₀) (hk : cs.kind = .function) (hdp : dp + 6 < recursionLimit)
include B F X T hk hdp
theorem rules_LCl1 : True := by
  k_with "call builtin:len" => (k_here; (with_reducible show wpAny _ _ (call (Value.builtin "len") [Value.ref _]) _ _ _); k_dflt (refine' kda_len (knd := PySem.intKind _ _) ?Nr ?mr ?dr ?lr ?zr ?_; (case Nr => k_asm); (case mr => k_mem); (case dr => assumption); (case lr => assumption); (case zr => assumption); k_whole))
  k_with "call ref" => (k_here; (rename GoneSpec _ _ _ _ _ _ _ _ _ => hG9r); k_dflt (refine' rl_ok ?g1r ?g2r ?g3r ?g4r ?g5r ?g6r ?g7r ?g8r ?g9r hG9r ?_; (case g1r => k_asm); (case g2r => k_asm); (case g3r => k_asm); (case g4r => k_asm); (case g5r => rfl); (case g6r => (first | exact room9 0 (by assumption) rfl | exact room9 1 (by assumption) rfl | exact room9 2 (by assumption) rfl | exact room9 3 (by assumption) rfl | exact room9 4 (by assumption) rfl | exact room9 5 (by assumption) rfl | exact room9 6 (by assumption) rfl | exact room9 7 (by assumption) rfl | exact room9 8 (by assumption) rfl | ktr_room)); (case g7r => k_asm); (case g8r => assumption); (case g9r => assumption)); intro st9r X9r C9r G9r h9r tk9r F9r N9r; (try dsimp only); (try k_fold))
  trivial
variable {c : CFix} {st : CSt} {R : List (Addr × Obj)}
set_option maxRecDepth 100000 in
set_option maxHeartbeats 8000000 in
theorem cl_ok (N : News h₀ L s.heap (Led c st R)) (G : Good w c st R) (hG : GoneSpec w p loose mean mg mb c.ga c.ol c.S₀) (hs : 0 ≤ st.stay)
  (ret : ∀ (st' : CSt) (X : List (Addr × Obj)) (d : List Node), Cut st st' d → st'.line.length = min st.line.length st.stay.toNat → Good w c st' (X ++ R) → Back h₀ L m s Q .none (Led c st' (X ++ R))) :
  wpAny (model PySem.Challenge.rw_iy0004_01.row.prog w) (ktrTop dp un gd cn cs L a ccd cl outer) (call (.ref 121) [.ref c.ca]) Q E s := by
  revert X; k_fill; intro X
  let l9 := newsOf N
  have N9 : News _ _ _ l9 := N
  walk1
  refine wpAny_execs_cons ?_
  (rename Fr _ _ _ _ => F9); (rename News _ _ _ _ => N9)
  refine' While_inv (fun n m₁ nx => m₁ = _ ∧ ∃ (st' : CSt) (X : List (Addr × Obj)) (d : List Node), nx = Led c st' (X ++ R) ∧ Cut st st' d ∧ Good w c st' (X ++ R) ∧ n = st'.line.length ∧ min st.line.length st.stay.toNat ≤ n) F9 N9 ⟨rfl, st, [], [], rfl, Cut.refl st, G, rfl, Nat.min_le_left _ _⟩ ?_ ?_
  · rintro n m₁ nx h₁ tk₁ F₁ N₁ ⟨rfl, st', X1, d, rfl, C, G', rfl, hmin⟩
    have hle : st'.line.length ≤ st.line.length := by rw [C.hline]; simp
    have hlen := G'.len
    have hroom := G'.hroom
    have hfit : st'.kvs.length ≤ 16777216 := big_room hroom hlen
    have hoc := G'.hoc
    have hdc := G'.hdc
    have hca : (c.ca, instObj 175 c.cd) ∈ seg c.ga .none st'.line .none ++ (X1 ++ R) := List.mem_append_right _ G'.hca
    have hst := C.hstay
    have hemp : st'.line = [] ∨ ∃ l n, st'.line = l ++ [n] := by
      rcases List.eq_nil_or_concat st'.line with h | ⟨l, n, h⟩
      · exact .inl h
      · exact .inr ⟨l, n, by simpa using h⟩
    clear F9 N9
    rcases hemp with h0 | ⟨l, n, hl⟩
    · have hz : st'.line.length = 0 := by rw [h0]; rfl
      k_steps
      exact ret st' X1 d C (eq_min hle (hz ▸ Nat.zero_le _) hmin) G' _ _ (by assumption) (by assumption)
    · have hz : st'.line.length = l.length + 1 := by rw [hl]; simp
      k_steps
      · (rename Good _ _ _ _ => G2)
        (rename Fr _ _ _ _ => F2)
        (rename News _ _ _ _ => N2)
        (rename Cut _ _ [n] => C2)
        have hl2 := congrArg List.length C2.hline
        simp only [List.length_append, List.length_cons, List.length_nil] at hl2
        exact WhileStep.intro F2 N2 (n' := l.length) (lt_of_succ hz) ⟨rfl, _, _ ++ X1, [n] ++ d, (by rw [List.append_assoc]), C.trans C2, (by rw [List.append_assoc]; exact G2), Nat.succ.inj (hz.symm.trans hl2), min_step (by rw [← hst, ← hlen]; assumption) hz⟩
      · exact ret st' X1 d C (eq_min hle (le_toNat (by rw [← hst, ← hlen]; assumption)) hmin) G' _ _ (by assumption) (by assumption)
  · first | passes_own | with_unfolding_all passes_own
end
end
section
-- LCr
open PySem PySem.W PySem.Calls PyProof.Rows
theorem rules_LCr0 : True := by
  k_with_none
  k_with "ne" => (refine neN ?_; (try dsimp only); first | assumption | (apply Ne.symm; assumption))
  k_with "tone" => (refine neN ?_; (try dsimp only); first | assumption | (apply Ne.symm; assumption))
  k_with "mem" => (first | assumption | exact mem_at 0 rfl | exact mem_at 1 rfl | exact mem_at 2 rfl | exact mem_at 3 rfl | exact mem_at 4 rfl | exact mem_at 5 rfl | exact mem_dr 1 (by assumption) | exact mem_dr 2 (by assumption) | exact mem_dr 3 (by assumption) | exact mem_dr 4 (by assumption) | exact mem_dr 5 (by assumption))
  k_with "getAttr ref" => (k_here; k_dflt ((first | (with_reducible refine' gN_p ?F1r ?X1r ?N1r ?h1r ?h2r ?v1r ?_) | (with_reducible refine' gN_nx ?F1r ?X1r ?N1r ?h1r ?h2r ?v1r ?_) | (with_reducible refine' gN_k ?F1r ?X1r ?N1r ?h1r ?h2r ?v1r ?_) | (with_reducible refine' gN_v ?F1r ?X1r ?N1r ?h1r ?h2r ?v1r ?_) | (with_reducible refine' gN_c ?F1r ?X1r ?N1r ?h1r ?h2r ?v1r ?_) | (with_reducible refine' gC_c ?F1r ?X1r ?N1r ?h1r ?h2r ?v1r ?_) | (with_reducible refine' gC_r ?F1r ?X1r ?N1r ?h1r ?h2r ?v1r ?_) | (with_reducible refine' gC_l ?F1r ?X1r ?N1r ?h1r ?h2r ?v1r ?_) | (with_reducible refine' gC_z ?F1r ?X1r ?N1r ?h1r ?h2r ?v1r ?_) | (with_reducible refine' gC_y ?F1r ?X1r ?N1r ?h1r ?h2r ?v1r ?_)); (case F1r => k_asm); (case X1r => k_asm); (case N1r => k_asm); (case h1r => k_mem); (case h2r => k_mem); (case v1r => k_handed); k_whole))
  k_with "setAttr ref" => (k_here; k_dflt (first | ((first | (with_reducible refine' sN_p ?F1r ?X1r ?N1r ?h1r ?h2r ?U1r ?_) | (with_reducible refine' sN_nx ?F1r ?X1r ?N1r ?h1r ?h2r ?U1r ?_) | (with_reducible refine' sN_v ?F1r ?X1r ?N1r ?h1r ?h2r ?U1r ?_) | (with_reducible refine' sN_c ?F1r ?X1r ?N1r ?h1r ?h2r ?U1r ?_) | (with_reducible refine' sC_r ?F1r ?X1r ?N1r ?h1r ?h2r ?U1r ?_) | (with_reducible refine' sC_l ?F1r ?X1r ?N1r ?h1r ?h2r ?U1r ?_) | (with_reducible refine' sC_z ?F1r ?X1r ?N1r ?h1r ?h2r ?U1r ?_) | (with_reducible refine' sC_y ?F1r ?X1r ?N1r ?h1r ?h2r ?U1r ?_)); (case F1r => k_asm); (case X1r => k_asm); (case N1r => k_asm); (case h1r => k_mem); (case h2r => k_mem); (case U1r => (first | exact upd_nd 0 (by assumption) rfl | exact upd_nd 1 (by assumption) rfl | exact upd_nd 2 (by assumption) rfl | exact upd_nd 3 (by assumption) rfl | exact upd_nd 4 (by assumption) rfl | exact upd_nd 5 (by assumption) rfl | k_upd)); k_whole) | (refine' set_dict ?k1r ?k2r ?k3r ?k4r ?k5r ?k6r ?k7r ?k8r ?k9r ?k10r ?k11r ?k12r ?k13r ?_; (case k1r => k_asm); (case k2r => k_asm); (case k3r => k_asm); (case k4r => k_inst); (case k5r => exact rfl); (case k6r => k_is); (case k7r => k_is); (case k8r => k_is); (case k9r => k_is); (case k10r => k_get); (case k11r => k_put); (case k12r => (first | exact upd_nd 0 (by assumption) rfl | exact upd_nd 1 (by assumption) rfl | exact upd_nd 2 (by assumption) rfl | exact upd_nd 3 (by assumption) rfl | exact upd_nd 4 (by assumption) rfl | exact upd_nd 5 (by assumption) rfl | k_upd)); (case k13r => exact Nat.le_of_ble_eq_true rfl); k_whole)); (refine (?_ : let l9 := _; ∀ h', Fr _ _ h' _ → News _ _ h' l9 → _)); intro l9r h'r F'r N'r; (try k_sweep))
  k_with "truthy ref" => (k_here; k_dflt ((refine' tN ?F1r ?X1r ?N1r ?h1r ?h2r ?_); (case F1r => k_asm); (case X1r => k_asm); (case N1r => k_asm); (case h1r => k_mem); (case h2r => k_mem); k_whole))
  k_with "storeName" => (k_here; k_dflt (refine' storeX_L ?F1r ?N1r ?_ ?a1r ?b1r; (case F1r => k_asm); (case N1r => k_asm); (case a1r => rfl); (case b1r => rfl); k_whole); (refine (?_ : let m9 := _; ∀ h', Fr _ _ h' m9 → News _ _ h' _ → _)); intro m9r h'r F'r N'r; (try k_sweep))
  k_with "subscriptTail" => (k_here; (with_reducible show wpAny _ _ (subscriptTail _ _ (Value.ref _) (Value.int _ _)) _ _ _); k_dflt (refine' kda_item (knd := PySem.intKind _ _) ?Nr ?mr ?dr (intKind_is _ _ _ _) ?vr ?_; (case Nr => k_asm); (case mr => k_mem); (case dr => assumption); (case vr => assumption)))
  k_with "call ref" => (k_here; k_dflt (refine wpAny_call ?_; refine' code_def ?k1r ?k2r ?k3r ?k4r ?k5r ?kAr ?kFr ?kKr ?k6r ?k7r ?k8r ?k9r ?kBr ?_ ?c2r ?c3r ?c4r ?c5r; (case kAr => exact rfl); (case kFr => exact rfl); (case kKr => first | exact rfl | assumption); (case k1r => k_asm); (case k2r => k_asm); (case k3r => k_asm); (case k4r => k_asm); (case k5r => k_asm); (case k6r => k_is); (case k7r => k_is); (case k8r => (first | exact room9 0 (by assumption) rfl | exact room9 1 (by assumption) rfl | exact room9 2 (by assumption) rfl | exact room9 3 (by assumption) rfl | exact room9 4 (by assumption) rfl | exact room9 5 (by assumption) rfl | exact room9 6 (by assumption) rfl | exact room9 7 (by assumption) rfl | exact room9 8 (by assumption) rfl | ktr_room)); (case k9r => first | exact BindsTo.of_eq rfl | exact binds_K (by k_in) rfl (by k_is) rfl rfl rfl); (case c5r => decide); (case kBr => exact locs rfl); (case c2r => exact rfl); (case c3r => exact rfl); (case c4r => exact rfl); k_whole; (refine (?_ : let m9 := _; ∀ g L h, Fr _ _ g _ → Fr _ _ h m9 → _)); intro m9r g'r L'r h'r FG'r F'r N'r B'r X'r T'r; (try dsimp only); (try k_fold); (refine (?_ : let e9 := _; let A9 := _; wpAny _ A9 (execs _ e9) _ _ _)); intro e9r A9r; (try ((with_reducible refine gen_tk ?_); intro tk9r))))
  trivial
theorem truthy_sym {prog : Program} {w : World} {K : Type} [DecidableEq K] {knd : KeyKind prog w K} {A : Around} {E : Value → Shared → Prop} {s : Shared} {h₀ : Heap} {L d : Addr} {news : List (Addr × Obj)} {o : Obj} {kvs : List (K × Value)} {Q : Bool → Shared → Prop}
  (N : News h₀ L s.heap news) (hp : (d, o) ∈ news) (hd : o.IsDictOf knd kvs) (lo : (d == sysModules) = false) (hfit : kvs.length ≤ 16777216) (b : Bool) (hb : (b = true ∧ kvs.length ≠ 0) ∨ (b = false ∧ kvs.length = 0)) (h : ∀ tk, Q b { s with toks := tk }) : wpAny (model prog w) A (truthy (.ref d)) Q E s :=
  wpAny_truthy_dict lo (kda_dict N hp hd) (by lia) (by
    have e : (!kvs.isEmpty) = b := by
      rcases hb with ⟨rfl, hb⟩ | ⟨rfl, hb⟩
      · cases kvs with
        | nil => exact absurd rfl hb
        | cons => rfl
      · cases kvs with
        | nil => rfl
        | cons => cases hb
    rw [e]
    exact h _)
theorem rules_LCr1 : True := by
  k_with "truthy ref" => (k_here; k_dflt (first
    | (refine' truthy_sym (knd := PySem.intKind _ _) ?Nr ?mr ?dr ?lr ?zr true (Or.inl ⟨rfl, ?br⟩) ?_; (case Nr => k_asm); (case mr => k_mem); (case dr => assumption); (case lr => assumption); (case zr => assumption); (case br => lia); k_whole)
    | (refine' truthy_sym (knd := PySem.intKind _ _) ?Nr ?mr ?dr ?lr ?zr false (Or.inr ⟨rfl, ?br⟩) ?_; (case Nr => k_asm); (case mr => k_mem); (case dr => assumption); (case lr => assumption); (case zr => assumption); (case br => lia); k_whole)); intro tkr)
  trivial
section
variable {w : World} {p : Program} {loose : List Str} {mean : ExcName → Option Value} {mg mb : Str → Option Value}
  {dp un : Nat} {gd : Option (List Code)} {cn : Str} {cs : Scope} {a : Addr} {ccd : Value} {cl : List (Str × Addr)} {outer : List Env} {A₀ : Around} {base h₀ : Heap} {L : Addr} {m : Str → Option Value} {s : Shared} {Q E : Value → Shared → Prop}
  (B : Below A₀ base outer h₀) (F : Fr h₀ L s.heap m) (X : (hd.heap_39 w.params).In h₀) (T : Top p loose mean mg mb h₀) (hk : cs.kind = .function) (hdp : dp + 6 < recursionLimit)
include B F X T hk hdp
theorem rules_LCr2 : True := by
  k_with "call builtin:len" => (k_here; (with_reducible show wpAny _ _ (call (Value.builtin "len") [Value.ref _]) _ _ _); k_dflt (refine' kda_len (knd := PySem.intKind _ _) ?Nr ?mr ?dr ?lr ?zr ?_; (case Nr => k_asm); (case mr => k_mem); (case dr => assumption); (case lr => assumption); (case zr => assumption); k_whole))
  k_with "call ref" => (k_here; (rename GoneSpec _ _ _ _ _ _ _ _ _ => hG9r); k_dflt (refine' rl_ok ?g1r ?g2r ?g3r ?g4r ?g5r ?g6r ?g7r ?g8r ?g9r hG9r ?_; (case g1r => k_asm); (case g2r => k_asm); (case g3r => k_asm); (case g4r => k_asm); (case g5r => rfl); (case g6r => (first | exact room9 0 (by assumption) rfl | exact room9 1 (by assumption) rfl | exact room9 2 (by assumption) rfl | exact room9 3 (by assumption) rfl | exact room9 4 (by assumption) rfl | exact room9 5 (by assumption) rfl | exact room9 6 (by assumption) rfl | exact room9 7 (by assumption) rfl | exact room9 8 (by assumption) rfl | ktr_room)); (case g7r => k_asm); (case g8r => assumption); (case g9r => assumption)); intro st9r X9r C9r G9r h9r tk9r F9r N9r; (try dsimp only); (try k_fold))
  trivial
variable {c : CFix} {st : CSt} {R : List (Addr × Obj)}
set_option maxRecDepth 100000 in
set_option maxHeartbeats 8000000 in
theorem cr_ok (N : News h₀ L s.heap (Led c st R)) (G : Good w c st R) (hG : GoneSpec w p loose mean mg mb c.ga c.ol c.S₀)
  (ret : ∀ (st' : CSt) (X : List (Addr × Obj)) (d : List Node), Cut st st' d → st'.line = [] → Good w c st' (X ++ R) → Back h₀ L m s Q .none (Led c st' (X ++ R))) :
  wpAny (model PySem.Challenge.rw_iy0004_01.row.prog w) (ktrTop dp un gd cn cs L a ccd cl outer) (call (.ref 156) [.ref c.ca]) Q E s := by
  revert X; k_fill; intro X
  let l9 := newsOf N
  have N9 : News _ _ _ l9 := N
  walk1
  refine wpAny_execs_cons ?_
  (rename Fr _ _ _ _ => F9); (rename News _ _ _ _ => N9)
  refine' While_inv (fun n m₁ nx => m₁ = _ ∧ ∃ (st' : CSt) (X : List (Addr × Obj)) (d : List Node), nx = Led c st' (X ++ R) ∧ Cut st st' d ∧ Good w c st' (X ++ R) ∧ n = st'.line.length) F9 N9 ⟨rfl, st, [], [], rfl, Cut.refl st, G, rfl⟩ ?_ ?_
  · rintro n m₁ nx h₁ tk₁ F₁ N₁ ⟨rfl, st', X1, d, rfl, C, G', rfl⟩
    have hle : st'.line.length ≤ st.line.length := by rw [C.hline]; simp
    have hlen := G'.len
    have hroom := G'.hroom
    have hfit : st'.kvs.length ≤ 16777216 := by lia
    have hoc := G'.hoc
    have hdc := G'.hdc
    have hca : (c.ca, instObj 175 c.cd) ∈ seg c.ga .none st'.line .none ++ (X1 ++ R) := List.mem_append_right _ G'.hca
    have hst := C.hstay
    have hemp : st'.line = [] ∨ ∃ l n, st'.line = l ++ [n] := by
      rcases List.eq_nil_or_concat st'.line with h | ⟨l, n, h⟩
      · exact .inl h
      · exact .inr ⟨l, n, by simpa using h⟩
    clear F9 N9
    rcases hemp with h0 | ⟨l, n, hl⟩
    · have hz : st'.line.length = 0 := by rw [h0]; rfl
      k_steps
      exact ret st' X1 d C h0 G' _ _ (by assumption) (by assumption)
    · have hz : st'.line.length = l.length + 1 := by rw [hl]; simp
      k_steps
      · (rename Good _ _ _ _ => G2)
        (rename Fr _ _ _ _ => F2)
        (rename News _ _ _ _ => N2)
        (rename Cut _ _ [n] => C2)
        have hl2 := congrArg List.length C2.hline
        simp only [List.length_append, List.length_cons, List.length_nil] at hl2
        exact WhileStep.intro F2 N2 (n' := l.length) (by lia) ⟨rfl, _, _ ++ X1, [n] ++ d, (by rw [List.append_assoc]), C.trans C2, (by rw [List.append_assoc]; exact G2), by lia⟩
  · first | passes_own | with_unfolding_all passes_own
end
end
section
-- LView
open PySem PySem.W PySem.Calls PyProof.Rows
set_option genInjectivity false in
set_option genSizeOf false in
/-- the plain state: entries, the latest first; what the cleaning def was told; the two sizes -/
structure V where
  l : List (Int × Int × Bool)
  o : List (Int × Int)
  size : Int
  stay : Int
noncomputable abbrev absS (st : CSt) : V := ⟨absL st.line, absO st.os, st.size, st.stay⟩
noncomputable def vdrop (m : Nat) (a : V) : V := { a with l := a.l.take m, o := a.o ++ goneAll (a.l.drop m) }
noncomputable def vfind (l : List (Int × Int × Bool)) (k : Int) : Option (Int × Int × Bool) := l.find? fun e => decide (e.1 = k)
noncomputable def vrest (l : List (Int × Int × Bool)) (k : Int) : List (Int × Int × Bool) := l.filter fun e => decide (e.1 ≠ k)
/-- the latest use of a key -/
noncomputable def vtouch (k : Int) (a : V) : V := match vfind a.l k with
  | some e => { a with l := e :: vrest a.l k }
  | none => a
noncomputable def vadd (k v : Int) (f : Bool) (a : V) : V := match vfind a.l k with
  | some e => { a with l := (k, v, f) :: vrest a.l k, o := a.o ++ goneOf e }
  | none =>
    let b : V := { a with l := (k, v, f) :: a.l }
    if (b.l.length : Int) > a.size then vdrop a.stay.toNat b else b
theorem cut_view {st st' : CSt} {d : List Node} (C : Cut st st' d) {m : Nat} (hm : st'.line.length = min st.line.length m) : absS st' = vdrop m (absS st) := by
  have h1 := C.hline
  have hl : st.line.length = st'.line.length + d.length := by rw [h1, List.length_append]
  have e1 : (absL st.line).take m = absL st'.line := by
    rw [h1]
    simp only [absL, List.map_append]
    by_cases h : st'.line.length = m
    · rw [← h, List.take_left' (by simp)]
    · have : d = [] := by
        have : d.length = 0 := by lia
        exact List.length_eq_zero_iff.mp this
      subst this
      simp only [List.map_nil, List.append_nil]
      rw [List.take_of_length_le (by simp; lia)]
  have e2 : (absL st.line).drop m = absL d := by
    rw [h1]
    simp only [absL, List.map_append]
    by_cases h : st'.line.length = m
    · rw [← h, List.drop_left' (by simp)]
    · have : d = [] := by
        have : d.length = 0 := by lia
        exact List.length_eq_zero_iff.mp this
      subst this
      simp only [List.map_nil, List.append_nil]
      rw [List.drop_eq_nil_of_le (by simp; lia)]
  simp only [absS, vdrop, e1, e2, C.hos, C.hsize, C.hstay]
theorem vfind_split (pre post : List Node) (n : Node) (hk : ((pre ++ n :: post).map Node.k).Nodup) : vfind (absL (pre ++ n :: post)) n.k = some (n.k, n.v, n.f) ∧ vrest (absL (pre ++ n :: post)) n.k = absL (pre ++ post) := by
  rw [List.map_append, List.map_cons, List.nodup_append, List.nodup_cons] at hk
  obtain ⟨h1, ⟨h2, h3⟩, h4⟩ := hk
  have hpre : ∀ x ∈ pre, x.k ≠ n.k := fun x hx => h4 x.k (List.mem_map.mpr ⟨x, hx, rfl⟩) n.k (.head _)
  have hpost : ∀ x ∈ post, x.k ≠ n.k := fun x hx e => h2 (e ▸ List.mem_map.mpr ⟨x, hx, rfl⟩)
  constructor
  · simp only [vfind, absL, List.map_append, List.map_cons, List.find?_append, List.find?_cons]
    rw [List.find?_eq_none.mpr (by
      intro y hy
      obtain ⟨x, hx, rfl⟩ := List.mem_map.mp hy
      simpa using hpre x hx)]
    simp
  · simp only [vrest, absL, List.map_append, List.map_cons, List.filter_append, List.filter_cons]
    rw [List.filter_eq_self.mpr (by
      intro y hy
      obtain ⟨x, hx, rfl⟩ := List.mem_map.mp hy
      simpa using hpre x hx), List.filter_eq_self.mpr (by
      intro y hy
      obtain ⟨x, hx, rfl⟩ := List.mem_map.mp hy
      simpa using hpost x hx)]
    simp
theorem vfind_none {l : List Node} {k : Int} (h : k ∉ l.map Node.k) : vfind (absL l) k = none := by
  refine List.find?_eq_none.mpr ?_
  intro y hy
  obtain ⟨x, hx, rfl⟩ := List.mem_map.mp hy
  simp only [decide_eq_true_eq]
  intro e
  exact h (List.mem_map.mpr ⟨x, hx, e⟩)
theorem split_of {l : List Node} {k : Int} (h : k ∈ l.map Node.k) : ∃ pre n post, l = pre ++ n :: post ∧ n.k = k := by
  obtain ⟨n, hn, e⟩ := List.mem_map.mp h
  obtain ⟨pre, post, e2⟩ := List.append_of_mem hn
  exact ⟨pre, n, post, e2, e⟩
theorem stored_new {kvs : List (Int × Value)} {k : Int} {v : Value} (h : valueAt kvs k = none) : stored kvs k v = kvs ++ [(k, v)] := by
  unfold stored
  rw [if_neg]
  intro ha
  obtain ⟨x, hx, e⟩ := List.any_eq_true.mp ha
  unfold valueAt at h
  rw [Option.map_eq_none_iff, List.find?_eq_none] at h
  exact h x hx e
theorem Good.new {w : World} {c : CFix} {st : CSt} {R : List (Addr × Obj)} (G : Good w c st R) {n : Node} (hk : n.k ∉ st.line.map Node.k) {oc' : Obj}
    (ho : oc'.IsDictOf (intKind PySem.Challenge.rw_iy0004_01.row.prog w) (stored st.kvs n.k (.ref n.a))) (hd : ∀ q ∈ Led c st R, q.1 < n.d) (hx : n.d < n.a) (hr : st.os.length + st.line.length < 4096) :
    Good w c { st with line := n :: st.line, oc := oc', kvs := stored st.kvs n.k (.ref n.a) } ([(n.a, instObj 39 n.d)] ++ R) := by
  have hfr : ∀ b ∈ c.ol :: c.cd :: c.dc :: (st.line.map Node.d ++ Ads R), b < n.d := by
    rw [← ads_led c st R]
    exact lt_ads hd
  have hX : ∀ x ∈ R, x ∈ [(n.a, instObj 39 n.d)] ++ R := fun x hx => List.mem_append_right _ hx
  refine ⟨ho, ?_, List.nodup_cons.mpr ⟨hk, G.hkeys⟩, hX _ G.hca, ?_, fun u hu => hX _ (G.hos u hu), ?_, fun x hx => hX _ (G.hS x hx), G.hdc, G.hga, ?_⟩
  · rw [stored_new (valueAt_none G.hkv hk)]
    exact (List.perm_append_singleton _ _).trans (G.hkv.cons _)
  · intro x hx
    rcases List.mem_cons.mp hx with rfl | hx
    · exact .head _
    · exact hX _ (G.hin x hx)
  · have h1 : (n.d :: c.ol :: c.cd :: c.dc :: (st.line.map Node.d ++ Ads R)).Nodup := List.nodup_cons.mpr ⟨fun hm => absurd (hfr _ hm) (Nat.lt_irrefl _), G.hnd⟩
    have h2 : (n.a :: n.d :: c.ol :: c.cd :: c.dc :: (st.line.map Node.d ++ Ads R)).Nodup := List.nodup_cons.mpr ⟨fun hm => by
      rcases List.mem_cons.mp hm with e | hm
      · exact absurd hx (e ▸ Nat.lt_irrefl _)
      · exact absurd (Nat.lt_trans (hfr _ hm) hx) (Nat.lt_irrefl _), h1⟩
    exact nodup_perm h2 fun y => by
      simp only [Ads, List.map_append, List.cons_append, List.nil_append, List.map_cons, List.map_nil, List.count_cons, List.count_append, List.count_nil]; lia
  · simp only [List.length_cons]
    lia
section
variable {α : Type} {c n x o d : α} {P R : List α}
theorem mN1 : ∀ z, z ∈ c :: n :: (P ++ x :: o :: d :: R) → z ∈ x :: n :: o :: c :: d :: (P ++ R) := by
  intro z hz; simp only [List.mem_cons, List.mem_append] at *; grind
theorem mN2 : ∀ z, z ∈ o :: c :: d :: (P ++ ([x] ++ R)) → z ∈ c :: (P ++ x :: o :: d :: R) := by
  intro z hz; simp only [List.mem_cons, List.mem_append, List.not_mem_nil, or_false] at *; grind
end
theorem vadd_new {st : CSt} {k v : Int} {f : Bool} (h : k ∉ st.line.map Node.k) :
    vadd k v f (absS st) = if ((st.line.length : Int) + 1) > st.size then vdrop st.stay.toNat { absS st with l := (k, v, f) :: absL st.line } else { absS st with l := (k, v, f) :: absL st.line } := by
  unfold vadd
  rw [show vfind (absS st).l k = none from vfind_none h]
  simp [absL]
theorem Good.sized {w : World} {c : CFix} {st : CSt} {R : List (Addr × Obj)} (G : Good w c st R) (z : Int) (tz : Tok) (y : Int) (ty : Tok) : Good w c { st with size := z, zt := tz, stay := y, yt := ty } R :=
  ⟨G.hoc, G.hkv, G.hkeys, G.hca, G.hin, G.hos, G.hnd, G.hS, G.hdc, G.hga, G.hroom⟩
end
section
-- LLaw
open PySem PySem.W PySem.Calls PyProof.Rows
/-- the law's own parts, read off the given program -/
noncomputable def lawBody : List Stmt := match PySem.Challenge.pw_iy0004_01.main.body.getLast? with
  | some (.FunctionDef _ _ b _ _ _ _ _ _ _) => b
  | _ => []
noncomputable def lawScope : Scope := match PySem.Challenge.pw_iy0004_01.main.body.getLast? with
  | some (.FunctionDef _ _ _ _ _ _ s _ _ _) => s
  | _ => default
noncomputable def fnArgs (i : Nat) : Arguments := match (lawBody[i]? : Option Stmt) with
  | some (.FunctionDef _ a _ _ _ _ _ _ _ _) => a
  | _ => default
noncomputable def fnBody (i : Nat) : List Stmt := match (lawBody[i]? : Option Stmt) with
  | some (.FunctionDef _ _ b _ _ _ _ _ _ _) => b
  | _ => []
noncomputable def fnScope (i : Nat) : Scope := match (lawBody[i]? : Option Stmt) with
  | some (.FunctionDef _ _ _ _ _ _ s _ _ _) => s
  | _ => default
noncomputable def forBody : List Stmt := match (lawBody[11]? : Option Stmt) with
  | some (Stmt.For _ _ b _ _) => b
  | _ => []
noncomputable def deedIf : Stmt := match forBody[4]? with
  | some s => s
  | none => default
end
section
-- LNew
open PySem PySem.W PySem.Calls PyProof.Rows
theorem rules_LNew0 : True := by
  k_with_none
  k_with "ne" => (refine neN ?_; (try dsimp only); first | assumption | (apply Ne.symm; assumption))
  k_with "tone" => (refine neN ?_; (try dsimp only); first | assumption | (apply Ne.symm; assumption))
  k_with "mem" => assumption
  k_with "subscriptTail" => (k_here; (with_reducible show wpAny _ _ (subscriptTail _ _ (Value.ref _) (Value.int _ _)) _ _ _); k_dflt (refine' kda_item (knd := PySem.intKind _ _) ?Nr ?mr ?dr (intKind_is _ _ _ _) ?vr ?_; (case Nr => k_asm); (case mr => k_mem); (case dr => assumption); (case vr => assumption)))
  trivial
section
variable {w : World} {p : Program} {loose : List Str} {mean : ExcName → Option Value} {mg mb : Str → Option Value}
  {dp un : Nat} {gd : Option (List Code)} {cn : Str} {cs : Scope} {a : Addr} {ccd : Value} {cl : List (Str × Addr)} {outer : List Env} {A₀ : Around} {base h₀ : Heap} {L : Addr} {m : Str → Option Value} {s : Shared} {Q E : Value → Shared → Prop}
  (B : Below A₀ base outer h₀) (F : Fr h₀ L s.heap m) (X : (hd.heap_39 w.params).In h₀) (T : Top p loose mean mg mb h₀) (hk : cs.kind = .function) (hdp : dp + 2 < recursionLimit)
include B F X T hk hdp
variable {c : CFix} {st : CSt} {R : List (Addr × Obj)} {k v : Int} {tk0 tv0 : Tok} {fl : Bool}
theorem ra_new2 {x d : Addr} {h1 h2 h3 h4 h5 h6 : Int} {t1 t2 t3 t4 t5 t6 : Tok} {oc' : Obj}
  (N : News h₀ L s.heap ((x, instObj 39 d) :: (d, dictOf [⟨h1, .str (Str.ofString "prev") t1, .none⟩, ⟨h2, .str (Str.ofString "next_key") t2, .none⟩, ⟨h3, .str (Str.ofString "key") t3, .int k tk0⟩,
    ⟨h4, .str (Str.ofString "value") t4, .int v tv0⟩, ⟨h5, .str (Str.ofString "cleanup") t5, if fl then .ref c.ga else .none⟩, ⟨h6, .str (Str.ofString "size") t6, .none⟩] 6) ::
    (c.ol, listOf (refsOf st.os).toArray st.nn) :: (c.cd, cacheD c.xc (.ref c.dc) (mruV st.line) (lastA .none st.line) (.int st.size st.zt) (.int st.stay st.yt)) :: (c.dc, oc') :: (seg c.ga .none st.line .none ++ R)))
  (G : Good w c st R) (ho : oc'.IsDictOf (intKind PySem.Challenge.rw_iy0004_01.row.prog w) (stored st.kvs k (.ref x))) (hk0 : k ∉ st.line.map Node.k) (l8 : ∀ q ∈ Led c st R, q.1 < d) (l7 : d < x) (hr : st.os.length + st.line.length < 4096)
  (ret : ∀ st1 : CSt, absS st1 = { absS st with l := (k, v, fl) :: absL st.line } → st1.line.length = st.line.length + 1 → Good w c st1 ([(x, instObj 39 d)] ++ R) → Back h₀ L m s Q .none (Led c st1 ([(x, instObj 39 d)] ++ R))) :
  wpAny (model PySem.Challenge.rw_iy0004_01.row.prog w) (ktrTop dp un gd cn cs L a ccd cl outer) (call (.ref 135) [.ref c.ca, .ref x]) Q E s := by
  have G1 := G.new (n := ⟨x, d, ⟨⟨h1, t1⟩, ⟨h2, t2⟩, ⟨h3, t3⟩, ⟨h4, t4⟩, ⟨h5, t5⟩, ⟨h6, t6⟩⟩, k, tk0, v, tv0, fl⟩) hk0 ho l8 l7 hr
  refine ra_new (ga := c.ga) (cd := c.cd) (xc := c.xc) (dc := c.dc) (line := st.line) (n := ⟨x, d, ⟨⟨h1, t1⟩, ⟨h2, t2⟩, ⟨h3, t3⟩, ⟨h4, t4⟩, ⟨h5, t5⟩, ⟨h6, t6⟩⟩, k, tk0, v, tv0, fl⟩)
    (R := (x, instObj 39 d) :: (c.ol, listOf (refsOf st.os).toArray st.nn) :: (c.dc, oc') :: R) B F X T hk hdp (kst_newsOf N mN1) (.tail _ (.tail _ (.tail _ G.hca))) ?_ ?_ ?_
  · intro y hy
    have := G1.hin y hy
    rcases List.mem_cons.mp this with e | h
    · rw [e]; exact .head _
    · exact .tail _ (.tail _ (.tail _ h))
  · refine nodup_perm G1.hnd fun y => ?_
    simp only [Ads, List.map_append, List.cons_append, List.nil_append, List.map_cons, List.map_nil, List.count_cons, List.count_append, List.count_nil]; lia
  · intro h' tk' F' N'
    exact ret _ rfl rfl G1 h' tk' F' (kst_newsOf N' mN2)
end
end
section
-- LOld
open PySem PySem.W PySem.Calls PyProof.Rows
noncomputable def mru2 (pre : List Node) (a : Addr) : Value := match pre with
  | [] => .ref a
  | m :: _ => .ref m.a
theorem mru_split (pre post : List Node) (n : Node) : mruV (pre ++ n :: post) = mru2 pre n.a := by cases pre <;> rfl
theorem lru_split (pre post : List Node) (n : Node) : lastA .none (pre ++ n :: post) = lastA (.ref n.a) post := by rw [lastA_append]; rfl
section
variable {α : Type} {c n o d : α} {P Q R : List α}
theorem mS1 : ∀ z, z ∈ n :: o :: c :: d :: (P ++ (Q ++ R)) → z ∈ o :: c :: d :: (P ++ n :: (Q ++ R)) := by
  intro z hz; simp only [List.mem_cons, List.mem_append] at *; grind
theorem mS2 : ∀ z, z ∈ o :: c :: d :: (P ++ n :: (Q ++ R)) → z ∈ n :: o :: c :: d :: (P ++ (Q ++ R)) := by
  intro z hz; simp only [List.mem_cons, List.mem_append] at *; grind
theorem mS4 : ∀ z, z ∈ o :: n :: R → z ∈ n :: o :: R := by
  intro z hz; simp only [List.mem_cons] at *; grind
theorem mS5 {t : α} : ∀ z, z ∈ n :: o :: c :: d :: (P ++ (Q ++ ([t] ++ R))) → z ∈ t :: o :: n :: c :: d :: (P ++ (Q ++ R)) := by
  intro z hz; simp only [List.mem_cons, List.mem_append, List.not_mem_nil, or_false] at *; grind
theorem mG1 : ∀ z, z ∈ c :: (P ++ o :: d :: R) → z ∈ o :: c :: d :: (P ++ R) := by
  intro z hz; simp only [List.mem_cons, List.mem_append] at *; grind
theorem mG2 : ∀ z, z ∈ o :: c :: d :: (P ++ R) → z ∈ c :: (P ++ o :: d :: R) := by
  intro z hz; simp only [List.mem_cons, List.mem_append] at *; grind
theorem mS3 {t : α} : ∀ z, z ∈ o :: c :: d :: (P ++ ([t] ++ R)) → z ∈ t :: o :: c :: d :: (P ++ R) := by
  intro z hz; simp only [List.mem_cons, List.mem_append, List.not_mem_nil, or_false] at *; grind
end
noncomputable abbrev LedN (c : CFix) (st : CSt) (pre post : List Node) (n : Node) (R : List (Addr × Obj)) : List (Addr × Obj) :=
  (n.d, nodeD n.x (lastA .none pre) (nxt .none post) n.K n.V (n.C c.ga)) :: (c.ol, listOf (refsOf st.os).toArray st.nn) :: (c.cd, cacheD c.xc (.ref c.dc) (mru2 pre n.a) (lastA (.ref n.a) post) (.int st.size st.zt) (.int st.stay st.yt)) :: (c.dc, st.oc) ::
    (seg c.ga .none pre n.K ++ (seg c.ga (.ref n.a) post .none ++ R))
theorem led_split {c : CFix} {st : CSt} {R : List (Addr × Obj)} {pre post : List Node} {n : Node} (hl : st.line = pre ++ n :: post) : ∀ z, z ∈ LedN c st pre post n R → z ∈ Led c st R := by
  unfold Led LedN
  rw [hl]
  simp only [mru_split, lru_split, seg_append, seg, nxt_cons, List.append_assoc, List.cons_append]
  exact mS1
theorem led_join {c : CFix} {st : CSt} {R : List (Addr × Obj)} {pre post : List Node} {n : Node} (hl : st.line = pre ++ n :: post) : ∀ z, z ∈ Led c st R → z ∈ LedN c st pre post n R := by
  unfold Led LedN
  rw [hl]
  simp only [mru_split, lru_split, seg_append, seg, nxt_cons, List.append_assoc, List.cons_append]
  exact mS2
theorem Good.mod {w : World} {c : CFix} {st : CSt} {R X : List (Addr × Obj)} (G : Good w c st R) {pre post : List Node} {n n' : Node} (hl : st.line = pre ++ n :: post) (ea : n'.a = n.a) (ed : n'.d = n.d) (ek : n'.k = n.k) {os' : List Tup} {nn' : Nat}
    (hos : ∀ u ∈ os', (u.t, u.obj) ∈ X ++ R) (hnd : (c.ol :: c.cd :: c.dc :: (st.line.map Node.d ++ Ads (X ++ R))).Nodup) (hr : os'.length + st.line.length ≤ 4096) :
    Good w c { st with line := pre ++ n' :: post, os := os', nn := nn' } (X ++ R) := by
  have hX : ∀ x ∈ R, x ∈ X ++ R := fun x hx => List.mem_append_right _ hx
  have e1 : (pre ++ n' :: post).map pr = (pre ++ n :: post).map pr := by simp [pr, ea, ek]
  have e2 : (pre ++ n' :: post).map Node.k = (pre ++ n :: post).map Node.k := by simp [ek]
  have e3 : (pre ++ n' :: post).map Node.d = (pre ++ n :: post).map Node.d := by simp [ed]
  refine ⟨G.hoc, ?_, ?_, hX _ G.hca, ?_, hos, ?_, fun x hx => hX _ (G.hS x hx), G.hdc, G.hga, ?_⟩
  · rw [e1, ← hl]; exact G.hkv
  · rw [e2, ← hl]; exact G.hkeys
  · intro x hx
    rcases List.mem_append.mp hx with h | h
    · exact hX _ (G.hin x (hl ▸ List.mem_append_left _ h))
    · rcases List.mem_cons.mp h with rfl | h
      · rw [ea, ed]; exact hX _ (G.hin n (hl ▸ List.mem_append_right _ (.head _)))
      · exact hX _ (G.hin x (hl ▸ List.mem_append_right _ (.tail _ h)))
  · rw [e3, ← hl]; exact hnd
  · have : (pre ++ n' :: post).length = st.line.length := by rw [hl]; simp
    rw [this]; exact hr
open PySem PySem.W PySem.Calls PyProof.Rows
theorem rules_LOld0 : True := by
  k_with_none
  k_with "ne" => (refine neN ?_; (try dsimp only); first | assumption | (apply Ne.symm; assumption))
  k_with "tone" => (refine neN ?_; (try dsimp only); first | assumption | (apply Ne.symm; assumption))
  k_with "mem" => assumption
  k_with "subscriptTail" => (k_here; (with_reducible show wpAny _ _ (subscriptTail _ _ (Value.ref _) (Value.int _ _)) _ _ _); k_dflt (refine' kda_item (knd := PySem.intKind _ _) ?Nr ?mr ?dr (intKind_is _ _ _ _) ?vr ?_; (case Nr => k_asm); (case mr => k_mem); (case dr => assumption); (case vr => assumption)))
  trivial
section
variable {w : World} {p : Program} {loose : List Str} {mean : ExcName → Option Value} {mg mb : Str → Option Value}
  {dp un : Nat} {gd : Option (List Code)} {cn : Str} {cs : Scope} {a : Addr} {ccd : Value} {cl : List (Str × Addr)} {outer : List Env} {A₀ : Around} {base h₀ : Heap} {L : Addr} {m : Str → Option Value} {s : Shared} {Q E : Value → Shared → Prop}
  (B : Below A₀ base outer h₀) (F : Fr h₀ L s.heap m) (X : (hd.heap_39 w.params).In h₀) (T : Top p loose mean mg mb h₀) (hk : cs.kind = .function) (hdp : dp + 2 < recursionLimit)
include B F X T hk hdp
variable {c : CFix} {st : CSt} {R : List (Addr × Obj)} {k v : Int} {tk0 tv0 : Tok} {fl : Bool}
theorem ra_G {pre post : List Node} {n : Node} (N : News h₀ L s.heap (Led c st R)) (G : Good w c st R) (hl : st.line = pre ++ n :: post)
  (ret : Back h₀ L m s Q .none (Led c { st with line := n :: (pre ++ post) } R)) :
  wpAny (model PySem.Challenge.rw_iy0004_01.row.prog w) (ktrTop dp un gd cn cs L a ccd cl outer) (call (.ref 135) [.ref c.ca, .ref n.a]) Q E s := by
  have hin := G.hin
  have hnd := G.hnd
  have hv : ∀ x ∈ st.line, valueAt st.kvs x.k = some (.ref x.a) := fun x hx => G.val hx
  rw [hl] at hin hnd hv
  unfold Led at N
  rw [hl] at N
  refine ra_touch (R := (c.ol, listOf (refsOf st.os).toArray st.nn) :: (c.dc, st.oc) :: R) B F X T hk hdp (kst_newsOf N mG1) (.tail _ (.tail _ G.hca)) (fun x hx => .tail _ (.tail _ (hin x hx))) (.tail _ (.head _)) G.hoc hv ?_ ?_
  · refine nodup_perm hnd fun y => ?_
    simp only [Ads, List.map_append, List.cons_append, List.nil_append, List.map_cons, List.map_nil, List.count_cons, List.count_append, List.count_nil]; lia
  · intro h' tk' F' N'
    exact ret h' tk' F' (kst_newsOf N' mG2)
theorem gi_G {pre post : List Node} {n : Node} (N : News h₀ L s.heap (Led c st R)) (G : Good w c st R) (hl : st.line = pre ++ n :: post)
  (ret : Back h₀ L m s Q n.V (Led c { st with line := n :: (pre ++ post) } R)) :
  wpAny (model PySem.Challenge.rw_iy0004_01.row.prog w) (ktrTop dp un gd cn cs L a ccd cl outer) (call (.ref 72) [.ref c.ca, .int n.k tk0]) Q E s := by
  have hin := G.hin
  have hnd := G.hnd
  have hv : ∀ x ∈ st.line, valueAt st.kvs x.k = some (.ref x.a) := fun x hx => G.val hx
  rw [hl] at hin hnd hv
  unfold Led at N
  rw [hl] at N
  refine gi_touch (R := (c.ol, listOf (refsOf st.os).toArray st.nn) :: (c.dc, st.oc) :: R) B F X T hk hdp (kst_newsOf N mG1) (.tail _ (.tail _ G.hca)) (fun x hx => .tail _ (.tail _ (hin x hx))) (.tail _ (.head _)) G.hoc hv ?_ ?_
  · refine nodup_perm hnd fun y => ?_
    simp only [Ads, List.map_append, List.cons_append, List.nil_append, List.map_cons, List.map_nil, List.count_cons, List.count_append, List.count_nil]; lia
  · intro h' tk' F' N'
    exact ret h' tk' F' (kst_newsOf N' mG2)
/-- as the walk of add leaves it: the node's dict ahead -/
theorem ra_old2 {pre post : List Node} {n : Node} (hl : st.line = pre ++ n :: post) (G : Good w c st R) (N : News h₀ L s.heap (LedN c st pre post n R))
  (ret : ∀ st1 : CSt, absS st1 = ⟨absL (n :: (pre ++ post)), absO st.os, st.size, st.stay⟩ → st1.line.length = st.line.length → Good w c st1 R → Back h₀ L m s Q .none (Led c st1 R)) :
  wpAny (model PySem.Challenge.rw_iy0004_01.row.prog w) (ktrTop dp un gd cn cs L a ccd cl outer) (call (.ref 135) [.ref c.ca, .ref n.a]) Q E s :=
  ra_G B F X T hk hdp (kst_newsOf N (led_join hl)) G hl (ret { st with line := n :: (pre ++ post) } rfl (by rw [hl]; simp; lia) (G.touch hl))
end
end
section
-- LLst
open PySem PySem.W PySem.Calls PyProof.Rows
section
variable {prog : Program} {w : World} {A : Around} {E : Value → Shared → Prop} {s : Shared} {h₀ : Heap} {L D : Addr} {m : Str → Option Value} {news news' : List (Addr × Obj)} {n : Nat}
theorem kl_remove {pre post : List Value} {x y : Value} {e : Value → Bool} {Q : Value → Shared → Prop} (F : Fr h₀ L s.heap m) (N : News h₀ L s.heap news) (he : ∀ z ∈ pre ++ y :: post, MeetsSeq.EqGives z x (e z)) (hit : e y = true) (hno : ∀ z ∈ pre, e z = false)
    (U : Upd D (listOf (pre ++ y :: post).toArray n) (listOf (pre ++ post).toArray (n + 1)) news news') (hz : (pre ++ y :: post).length ≤ sizeLine)
    (h : ∀ h', Fr h₀ L h' m → News h₀ L h' news' → Q .none { s with heap := h' }) : wpAny (model prog w) A (call (.builtin "list.remove") [.ref D, x]) Q E s := by
  obtain ⟨pr, po, rfl, rfl, a, b⟩ := U.split
  have z := N (D, listOf (pre ++ y :: post).toArray n) (List.mem_append.mpr (.inr (.head _)))
  have hj : pre.length < (pre ++ y :: post).toArray.size := by simp
  refine call_meets PySem.F.slot_list_remove ⟨_, z.1, rfl⟩ PySem.F.entry_list_remove (PySem.F.args_list_remove_2 _ _) (MeetsSeq.list_remove D _ n x e (fun z hz => he z (by simpa using hz)) pre.length hj ?_ ?_ (by rw [List.size_toArray]; exact hz)) ⟨z.1, h _ (F.change (Heap.SameBut.update ..) z.2.1 z.2.2) (kl_turn _ N a b ?_ ?_)⟩
  · simpa using hit
  · intro i hi hlt
    have : (pre ++ y :: post).toArray[i] = pre[i] := by simp [List.getElem_append_left hlt]
    rw [this]
    exact hno _ (List.getElem_mem hlt)
  · show (pre ++ y :: post).toArray.eraseIdxIfInBounds pre.length = (pre ++ post).toArray
    exact kl_erase ..
  · simp
theorem kl_removeI {pre post : List Value} {k : Int} {t u : Tok} {Q : Value → Shared → Prop} (F : Fr h₀ L s.heap m) (N : News h₀ L s.heap news) (hi : ∀ z ∈ pre ++ Value.int k u :: post, ∃ a t, z = Value.int a t) (hno : ∀ z ∈ pre, ∀ a t, z = Value.int a t → a ≠ k)
    (U : Upd D (listOf (pre ++ Value.int k u :: post).toArray n) (listOf (pre ++ post).toArray (n + 1)) news news') (hz : (pre ++ Value.int k u :: post).length ≤ sizeLine)
    (h : ∀ h', Fr h₀ L h' m → News h₀ L h' news' → Q .none { s with heap := h' }) : wpAny (model prog w) A (call (.builtin "list.remove") [.ref D, .int k t]) Q E s := by
  refine kl_remove (e := fun z => match z with | .int b _ => b == k | _ => false) F N ?_ (by simp) ?_ U hz h
  · intro z hz
    obtain ⟨a, t', rfl⟩ := hi z hz
    exact MeetsSeq.EqGives.int _ _ _ _
  · intro z hz
    obtain ⟨a, t', rfl⟩ := hi z (List.mem_append_left _ hz)
    simpa using hno _ hz a t' rfl
theorem kl_insert0 {its : List Value} {u : Tok} {y : Value} {Q : Value → Shared → Prop} (F : Fr h₀ L s.heap m) (N : News h₀ L s.heap news) (U : Upd D (listOf its.toArray n) (listOf (y :: its).toArray (n + 1)) news news') (hz : its.length ≤ sizeLine) (h : ∀ h', Fr h₀ L h' m → News h₀ L h' news' → Q .none { s with heap := h' }) :
    wpAny (model prog w) A (call (.builtin "list.insert") [.ref D, .int 0 u, y]) Q E s :=
  kl_insert F N rfl (by simp [kl_ins]) U hz h
end
set_option genInjectivity false in
set_option genSizeOf false in
/-- an entry of the law's own books: its key in the line, its pair in held -/
structure LEnt where
  k : Int
  kt : Tok
  v : Int
  vt : Tok
  f : Bool
  t : Addr
noncomputable abbrev LEnt.obj (e : LEnt) : Obj := tup2 (.int e.v e.vt) (.bool e.f)
noncomputable abbrev lpr (e : LEnt) : Int × Value := (e.k, Value.ref e.t)
noncomputable abbrev lvals (es : List LEnt) : List Value := es.map fun e => Value.int e.k e.kt
noncomputable def absE (es : List LEnt) : List (Int × Int × Bool) := es.map fun e => (e.k, e.v, e.f)
set_option genInjectivity false in
set_option genSizeOf false in
structure LSt where
  ents : List LEnt
  oh : Obj
  hkvs : List (Int × Value)
  dues : List Tup
  ln : Nat
  dn : Nat
set_option genInjectivity false in
set_option genSizeOf false in
structure LFix where
  la : Addr
  da : Addr
  ha : Addr
noncomputable abbrev Ldyn (c : LFix) (s : LSt) : List (Addr × Obj) := [(c.la, listOf (lvals s.ents).toArray s.ln), (c.da, listOf (refsOf s.dues).toArray s.dn), (c.ha, s.oh)]
noncomputable abbrev LLed (c : LFix) (s : LSt) (R : List (Addr × Obj)) : List (Addr × Obj) := (c.la, listOf (lvals s.ents).toArray s.ln) :: (c.da, listOf (refsOf s.dues).toArray s.dn) :: (c.ha, s.oh) :: R
/-- the law's own books; the pairs lie in K -/
structure LGood (w : World) (c : LFix) (s : LSt) (K : List (Addr × Obj)) : Prop where
  hoh : s.oh.IsDictOf (intKind PySem.Challenge.rw_iy0004_01.row.prog w) s.hkvs
  hkv : s.hkvs.Perm (s.ents.map lpr)
  hkeys : (s.ents.map LEnt.k).Nodup
  htup : ∀ e ∈ s.ents, (e.t, e.obj) ∈ K
  hdue : ∀ u ∈ s.dues, (u.t, u.obj) ∈ K
  hha : (c.ha == sysModules) = false
  hroom : s.dues.length + s.ents.length ≤ 4096
theorem lnodup_keys {kvs : List (Int × Value)} {l : List LEnt} (h : kvs.Perm (l.map lpr)) (hk : (l.map LEnt.k).Nodup) : (kvs.map (·.1)).Nodup := by
  have h1 := (h.map (·.1)).nodup_iff.mpr
  refine h1 ?_
  simpa [List.map_map, Function.comp_def] using hk
theorem lvalueAt {kvs : List (Int × Value)} {l : List LEnt} (h : kvs.Perm (l.map lpr)) (hk : (l.map LEnt.k).Nodup) {e : LEnt} (hn : e ∈ l) : valueAt kvs e.k = some (.ref e.t) :=
  find_of_nodup (lnodup_keys h hk) (h.mem_iff.mpr (List.mem_map.mpr ⟨e, hn, rfl⟩))
theorem lvalueAt_none {kvs : List (Int × Value)} {l : List LEnt} (h : kvs.Perm (l.map lpr)) {k : Int} (hn : k ∉ l.map LEnt.k) : valueAt kvs k = none := by
  unfold valueAt
  rw [List.find?_eq_none.mpr ?_]
  · rfl
  · intro x hx
    obtain ⟨n, hn', rfl⟩ := List.mem_map.mp (h.mem_iff.mp hx)
    simp only [decide_eq_true_eq]
    intro e
    exact hn (List.mem_map.mpr ⟨n, hn', e⟩)
theorem lwithout_perm {kvs : List (Int × Value)} {l : List LEnt} {n : LEnt} (h : kvs.Perm ((l ++ [n]).map lpr)) (hk : ((l ++ [n]).map LEnt.k).Nodup) : (without kvs n.k).Perm (l.map lpr) := by
  have h1 := h.filter fun kv => decide (kv.1 ≠ n.k)
  have h2 : ((l ++ [n]).map lpr).filter (fun kv => decide (kv.1 ≠ n.k)) = l.map lpr := by
    have hn : ∀ x ∈ l, x.k ≠ n.k := by
      intro x hx e
      rw [List.map_append, List.nodup_append] at hk
      exact hk.2.2 x.k (List.mem_map.mpr ⟨x, hx, rfl⟩) n.k (by simp) e
    rw [List.map_append, List.filter_append]
    rw [List.filter_eq_self.mpr (by
      intro y hy
      obtain ⟨x, hx, rfl⟩ := List.mem_map.mp hy
      simpa using hn x hx)]
    simp
  rw [h2] at h1
  exact h1
theorem LGood.len {w : World} {c : LFix} {s : LSt} {K : List (Addr × Obj)} (G : LGood w c s K) : s.hkvs.length = s.ents.length := by
  have := G.hkv.length_eq
  simpa using this
theorem LGood.val {w : World} {c : LFix} {s : LSt} {K : List (Addr × Obj)} (G : LGood w c s K) {e : LEnt} (he : e ∈ s.ents) : valueAt s.hkvs e.k = some (.ref e.t) := lvalueAt G.hkv G.hkeys he
end
section
-- LGone
open PySem PySem.W PySem.Calls PyProof.Rows
theorem rules_LGone0 : True := by
  k_with_none
  k_with "ne" => (refine neN ?_; (try dsimp only); first | assumption | (apply Ne.symm; assumption))
  k_with "tone" => (refine neN ?_; (try dsimp only); first | assumption | (apply Ne.symm; assumption))
  k_with "mem" => (first | assumption | exact mem_at 0 rfl | exact mem_at 1 rfl | exact mem_at 2 rfl | exact mem_at 3 rfl | exact mem_at 4 rfl | exact mem_at 5 rfl | exact mem_dr 1 (by assumption) | exact mem_dr 2 (by assumption) | exact mem_dr 3 (by assumption) | exact mem_dr 4 (by assumption) | exact mem_dr 5 (by assumption))
  k_with "getAttr ref" => (k_here; k_dflt ((first | (with_reducible refine' gN_p ?F1r ?X1r ?N1r ?h1r ?h2r ?v1r ?_) | (with_reducible refine' gN_nx ?F1r ?X1r ?N1r ?h1r ?h2r ?v1r ?_) | (with_reducible refine' gN_k ?F1r ?X1r ?N1r ?h1r ?h2r ?v1r ?_) | (with_reducible refine' gN_v ?F1r ?X1r ?N1r ?h1r ?h2r ?v1r ?_) | (with_reducible refine' gN_c ?F1r ?X1r ?N1r ?h1r ?h2r ?v1r ?_) | (with_reducible refine' gC_c ?F1r ?X1r ?N1r ?h1r ?h2r ?v1r ?_) | (with_reducible refine' gC_r ?F1r ?X1r ?N1r ?h1r ?h2r ?v1r ?_) | (with_reducible refine' gC_l ?F1r ?X1r ?N1r ?h1r ?h2r ?v1r ?_) | (with_reducible refine' gC_z ?F1r ?X1r ?N1r ?h1r ?h2r ?v1r ?_) | (with_reducible refine' gC_y ?F1r ?X1r ?N1r ?h1r ?h2r ?v1r ?_)); (case F1r => k_asm); (case X1r => k_asm); (case N1r => k_asm); (case h1r => k_mem); (case h2r => k_mem); (case v1r => k_handed); k_whole))
  k_with "setAttr ref" => (k_here; k_dflt (first | ((first | (with_reducible refine' sN_p ?F1r ?X1r ?N1r ?h1r ?h2r ?U1r ?_) | (with_reducible refine' sN_nx ?F1r ?X1r ?N1r ?h1r ?h2r ?U1r ?_) | (with_reducible refine' sN_v ?F1r ?X1r ?N1r ?h1r ?h2r ?U1r ?_) | (with_reducible refine' sN_c ?F1r ?X1r ?N1r ?h1r ?h2r ?U1r ?_) | (with_reducible refine' sC_r ?F1r ?X1r ?N1r ?h1r ?h2r ?U1r ?_) | (with_reducible refine' sC_l ?F1r ?X1r ?N1r ?h1r ?h2r ?U1r ?_) | (with_reducible refine' sC_z ?F1r ?X1r ?N1r ?h1r ?h2r ?U1r ?_) | (with_reducible refine' sC_y ?F1r ?X1r ?N1r ?h1r ?h2r ?U1r ?_)); (case F1r => k_asm); (case X1r => k_asm); (case N1r => k_asm); (case h1r => k_mem); (case h2r => k_mem); (case U1r => (first | exact upd_nd 0 (by assumption) rfl | exact upd_nd 1 (by assumption) rfl | exact upd_nd 2 (by assumption) rfl | exact upd_nd 3 (by assumption) rfl | exact upd_nd 4 (by assumption) rfl | exact upd_nd 5 (by assumption) rfl | k_upd)); k_whole) | (refine' set_dict ?k1r ?k2r ?k3r ?k4r ?k5r ?k6r ?k7r ?k8r ?k9r ?k10r ?k11r ?k12r ?k13r ?_; (case k1r => k_asm); (case k2r => k_asm); (case k3r => k_asm); (case k4r => k_inst); (case k5r => exact rfl); (case k6r => k_is); (case k7r => k_is); (case k8r => k_is); (case k9r => k_is); (case k10r => k_get); (case k11r => k_put); (case k12r => (first | exact upd_nd 0 (by assumption) rfl | exact upd_nd 1 (by assumption) rfl | exact upd_nd 2 (by assumption) rfl | exact upd_nd 3 (by assumption) rfl | exact upd_nd 4 (by assumption) rfl | exact upd_nd 5 (by assumption) rfl | k_upd)); (case k13r => exact Nat.le_of_ble_eq_true rfl); k_whole)); (refine (?_ : let l9 := _; ∀ h', Fr _ _ h' _ → News _ _ h' l9 → _)); intro l9r h'r F'r N'r; (try k_sweep))
  k_with "truthy ref" => (k_here; k_dflt ((refine' tN ?F1r ?X1r ?N1r ?h1r ?h2r ?_); (case F1r => k_asm); (case X1r => k_asm); (case N1r => k_asm); (case h1r => k_mem); (case h2r => k_mem); k_whole))
  k_with "storeName" => (k_here; k_dflt (refine' storeX_L ?F1r ?N1r ?_ ?a1r ?b1r; (case F1r => k_asm); (case N1r => k_asm); (case a1r => rfl); (case b1r => rfl); k_whole); (refine (?_ : let m9 := _; ∀ h', Fr _ _ h' m9 → News _ _ h' _ → _)); intro m9r h'r F'r N'r; (try k_sweep))
  k_with "subscriptTail" => (k_here; (with_reducible show wpAny _ _ (subscriptTail _ _ (Value.ref _) (Value.int _ _)) _ _ _); k_dflt (refine' kda_item (knd := PySem.intKind _ _) ?Nr ?mr ?dr (intKind_is _ _ _ _) ?vr ?_; (case Nr => k_asm); (case mr => k_mem); (case dr => assumption); (case vr => assumption)))
  k_with "getItem ref int" => (k_here; k_dflt (refine' gi_sym ?Nr ?mr ?dr ?vr ?_; (case Nr => k_asm); (case mr => k_mem); (case dr => assumption); (case vr => assumption); k_whole))
  k_with "call builtin:len" => (k_here; (with_reducible show wpAny _ _ (call (Value.builtin "len") [Value.ref _]) _ _ _); k_dflt (refine' kda_len (knd := PySem.intKind _ _) ?Nr ?mr ?dr ?lr ?zr ?_; (case Nr => k_asm); (case mr => k_mem); (case dr => assumption); (case lr => assumption); (case zr => first | assumption | omega); k_whole))
  k_with "compareOp In int ref" => (k_here; k_dflt (first
    | (refine' kda_in (knd := PySem.intKind _ _) ?Nr ?mr ?dr ?lr (intKind_is _ _ _ _) true ?br ?_; (case Nr => k_asm); (case mr => k_mem); (case dr => assumption); (case lr => assumption); (case br => exact Option.isSome_iff_exists.mpr ⟨_, by assumption⟩); k_whole)
    | (refine' kda_in (knd := PySem.intKind _ _) ?Nr ?mr ?dr ?lr (intKind_is _ _ _ _) false ?br ?_; (case Nr => k_asm); (case mr => k_mem); (case dr => assumption); (case lr => assumption); (case br => exact Option.isSome_eq_false_iff.mpr (Option.isNone_iff_eq_none.mpr (by assumption))); k_whole)))
  k_with "setItem ref int" => (k_here; k_dflt (refine' kda_set (knd := PySem.intKind _ _) ?Fr ?Nr ?Ur ?dr (intKind_is _ _ _ _) ?zr ?_; (case Fr => k_asm); (case Nr => k_asm); (case Ur => (first | exact updF_nd 0 (by assumption) rfl | exact updF_nd 1 (by assumption) rfl | exact updF_nd 2 (by assumption) rfl | exact updF_nd 3 (by assumption) rfl | exact updF_nd 4 (by assumption) rfl | exact updF_nd 5 (by assumption) rfl | k_updF)); (case dr => assumption); (case zr => assumption)); intro h'r o'r F'r N'r hd'r; (try dsimp only at N'r); (let n7r := newsOf N'r); (have N7r : News _ _ _ n7r := N'r))
  k_with "getMethod ref" => (k_here; (with_reducible show wpAny _ _ (getMethod (Value.ref _) (Str.ofString "pop") _) _ _ _); k_dflt (refine' kob_method (knd := PySem.intKind _ _) PySem.F.slot_dict_pop PySem.F.type_dict_pop ?Nr ?mr ?dr ?_; (case Nr => k_asm); (case mr => k_mem); (case dr => assumption)))
  k_with "getMethod ref" => (k_here; (with_reducible show wpAny _ _ (getMethod (Value.ref _) (Str.ofString "get") _) _ _ _); k_dflt (refine' kdg_method (knd := PySem.intKind _ _) ?Nr ?mr ?dr ?_; (case Nr => k_asm); (case mr => k_mem); (case dr => assumption)))
  k_with "call builtin:dict.pop" => (k_here; (with_reducible show wpAny _ _ (call (Value.builtin "dict.pop") [Value.ref _, Value.int _ _]) _ _ _); k_dflt (refine' kob_pop (knd := PySem.intKind _ _) (more := []) ?Fr ?Nr ?Ur ?dr (intKind_is _ _ _ _) (.inl rfl) (by rfl) (PySem.F.args_dict_pop_2 _ _) ?lr ?zr ?_; (case Fr => k_asm); (case Nr => k_asm); (case Ur => (first | exact updF_nd 0 (by assumption) rfl | exact updF_nd 1 (by assumption) rfl | exact updF_nd 2 (by assumption) rfl | exact updF_nd 3 (by assumption) rfl | exact updF_nd 4 (by assumption) rfl | exact updF_nd 5 (by assumption) rfl | k_updF)); (case dr => assumption); (case lr => assumption); (case zr => assumption)); intro h'r o'r F'r N'r hd'r; (try dsimp only at N'r); (let n7r := newsOf N'r); (have N7r : News _ _ _ n7r := N'r))
  k_with "call builtin:dict.get" => (k_here; (with_reducible show wpAny _ _ (call (Value.builtin "dict.get") [Value.ref _, Value.int _ _, _]) _ _ _); k_dflt (refine' kdg_get2 (knd := PySem.intKind _ _) ?Nr ?mr ?dr ?lr (intKind_is _ _ _ _) _ ?vr ?_; (case Nr => k_asm); (case mr => k_mem); (case dr => assumption); (case lr => assumption); (case vr => assumption)); (try dsimp only [Option.getD]))
  k_with "enter" => (refine' code_def ?k1r ?k2r ?k3r ?k4r ?k5r ?kAr ?kFr ?kKr ?k6r ?k7r ?k8r ?k9r ?kBr ?_ ?c2r ?c3r ?c4r ?c5r; (case kAr => exact rfl); (case kFr => exact rfl); (case kKr => first | exact rfl | assumption); (case k1r => k_asm); (case k2r => k_asm); (case k3r => k_asm); (case k4r => k_asm); (case k5r => k_asm); (case k6r => k_is); (case k7r => k_is); (case k8r => (first | exact room9 0 (by assumption) rfl | exact room9 1 (by assumption) rfl | exact room9 2 (by assumption) rfl | exact room9 3 (by assumption) rfl | exact room9 4 (by assumption) rfl | exact room9 5 (by assumption) rfl | exact room9 6 (by assumption) rfl | exact room9 7 (by assumption) rfl | exact room9 8 (by assumption) rfl | ktr_room)); (case k9r => first | exact BindsTo.of_eq rfl | exact binds_K (by k_in) rfl (by k_is) rfl rfl rfl); (case c5r => decide); (case kBr => exact locs rfl); (case c2r => exact rfl); (case c3r => exact rfl); (case c4r => exact rfl); k_whole; (refine (?_ : let m9 := _; ∀ g L h, Fr _ _ g _ → Fr _ _ h m9 → _)); intro m9r g'r L'r h'r FG'r F'r N'r B'r X'r T'r; (try dsimp only); (try k_fold); (refine (?_ : let e9 := _; let A9 := _; wpAny _ A9 (execs _ e9) _ _ _)); intro e9r A9r; (try ((with_reducible refine gen_tk ?_); intro tk9r)))
  k_with "eval Name" => (k_here; k_dflt (refine' nameX_F ?Nr ?cr ?mr ?dr ?_ ?ar ?br ?er ?fr; (case ar => rfl); (case br => rfl); (case er => decide); (case fr => decide); (case Nr => k_asm); (case cr => rfl); (case mr => k_mem); (case dr => assumption); k_whole))
  trivial
noncomputable abbrev fn3 (name : String) (q : Str) (i : Nat) (cl : List (Str × Addr)) (doc pm : Value) (c' : Addr) (ctv : Value) : Obj := fnMade (Str.ofString name) q (fnArgs i) (fnBody i) (fnScope i) cl doc pm c' ctv
set_option maxRecDepth 100000 in
set_option maxHeartbeats 1000000 in
theorem gone_ok {w : World} {p : Program} {loose : List Str} {mean : ExcName → Option Value} {mg mb : Str → Option Value} {ga ol oA c' : Addr} {q : Str} {doc pm ctv : Value} {ocode ocell : Obj} {vs : Array Value} {t0 : Tok}
    (h1 : ocell.data = .cell (some (.ref ol))) (h2 : ocode.data = .fields vs) (h3 : vs[1]? = some (.str q t0)) :
    GoneSpec w p loose mean mg mb ga ol [(ga, fn3 "gone" q 4 [(Str.ofString "out", oA)] doc pm c' ctv), (c', ocode), (oA, ocell)] := by
  intro dp un gd cn cs a ccd cl outer A₀ base h₀ L m s Q E k v tk tv us n S B F X N T hk hdp hS hn hl ret
  revert X; k_fill; intro X
  have m1 := hS _ (List.Mem.head _)
  have m2 := hS _ (List.Mem.tail _ (List.Mem.head _))
  have m3 := hS _ (List.Mem.tail _ (List.Mem.tail _ (List.Mem.head _)))
  have eb : fnBody 4 = _ :: _ := rfl
  have es : fnScope 4 = Scope.mk _ _ _ _ _ := rfl
  have ea : fnArgs 4 = Arguments.mk _ _ _ _ _ _ _ := rfl
  unfold fn3 at m1
  rw [eb, es, ea] at m1
  clear eb es ea
  have hoff := nd1 hn
  refine wpAny_call ?_
  refine' code_nest ?k1 ?k2 ?k3 ?k4 ?k5 ?kA ?kF ?kK ?k6 ?k7 ?k8 ?k9 ?kB ?_ ?c2 ?c3 ?c4 ?c5
  case kA => exact rfl
  case kF => exact rfl
  case kK => assumption
  case k1 => k_asm
  case k2 => k_asm
  case k3 => k_asm
  case k4 => k_asm
  case k5 => k_asm
  case k6 => exact .tail _ m1
  case k7 => exact codeRec_news (by k_asm) (.tail _ m2) h2 h3
  case k8 => (first | exact room9 0 (by assumption) rfl | exact room9 1 (by assumption) rfl | exact room9 2 (by assumption) rfl | exact room9 3 (by assumption) rfl | exact room9 4 (by assumption) rfl | exact room9 5 (by assumption) rfl | exact room9 6 (by assumption) rfl | exact room9 7 (by assumption) rfl | exact room9 8 (by assumption) rfl | ktr_room)
  case k9 => exact BindsTo.of_eq rfl
  case c5 => decide
  case kB => exact locs rfl
  case c2 => exact rfl
  case c3 => exact rfl
  case c4 => exact rfl
  intro g' L' h' FG' F' N' B' X' T'
  try dsimp only
  try k_fold
  k_steps
  (rename _ ∧ AllLt _ _ => l9)
  (rename News _ _ _ _ => N9)
  simp only [List.push_toArray] at N9
  refine' ret _ _ _ (by assumption) N9 ?_
  intro q hq
  rcases List.mem_cons.mp hq with e | hq
  · rw [e]; exact l9.1
  · exact ktn_ltOf l9.2 q hq
end
section
-- LGet
open PySem PySem.W PySem.Calls PyProof.Rows
theorem rules_LGet0 : True := by
  k_with_none
  k_with "ne" => (refine neN ?_; (try dsimp only); first | assumption | (apply Ne.symm; assumption))
  k_with "tone" => (refine neN ?_; (try dsimp only); first | assumption | (apply Ne.symm; assumption))
  k_with "mem" => (first | assumption | exact mem_at 0 rfl | exact mem_at 1 rfl | exact mem_at 2 rfl | exact mem_at 3 rfl | exact mem_at 4 rfl | exact mem_at 5 rfl | exact mem_dr 1 (by assumption) | exact mem_dr 2 (by assumption) | exact mem_dr 3 (by assumption) | exact mem_dr 4 (by assumption) | exact mem_dr 5 (by assumption))
  k_with "getAttr ref" => (k_here; k_dflt ((first | (with_reducible refine' gN_p ?F1r ?X1r ?N1r ?h1r ?h2r ?v1r ?_) | (with_reducible refine' gN_nx ?F1r ?X1r ?N1r ?h1r ?h2r ?v1r ?_) | (with_reducible refine' gN_k ?F1r ?X1r ?N1r ?h1r ?h2r ?v1r ?_) | (with_reducible refine' gN_v ?F1r ?X1r ?N1r ?h1r ?h2r ?v1r ?_) | (with_reducible refine' gN_c ?F1r ?X1r ?N1r ?h1r ?h2r ?v1r ?_) | (with_reducible refine' gC_c ?F1r ?X1r ?N1r ?h1r ?h2r ?v1r ?_) | (with_reducible refine' gC_r ?F1r ?X1r ?N1r ?h1r ?h2r ?v1r ?_) | (with_reducible refine' gC_l ?F1r ?X1r ?N1r ?h1r ?h2r ?v1r ?_) | (with_reducible refine' gC_z ?F1r ?X1r ?N1r ?h1r ?h2r ?v1r ?_) | (with_reducible refine' gC_y ?F1r ?X1r ?N1r ?h1r ?h2r ?v1r ?_)); (case F1r => k_asm); (case X1r => k_asm); (case N1r => k_asm); (case h1r => k_mem); (case h2r => k_mem); (case v1r => k_handed); k_whole))
  k_with "setAttr ref" => (k_here; k_dflt (first | ((first | (with_reducible refine' sN_p ?F1r ?X1r ?N1r ?h1r ?h2r ?U1r ?_) | (with_reducible refine' sN_nx ?F1r ?X1r ?N1r ?h1r ?h2r ?U1r ?_) | (with_reducible refine' sN_v ?F1r ?X1r ?N1r ?h1r ?h2r ?U1r ?_) | (with_reducible refine' sN_c ?F1r ?X1r ?N1r ?h1r ?h2r ?U1r ?_) | (with_reducible refine' sC_r ?F1r ?X1r ?N1r ?h1r ?h2r ?U1r ?_) | (with_reducible refine' sC_l ?F1r ?X1r ?N1r ?h1r ?h2r ?U1r ?_) | (with_reducible refine' sC_z ?F1r ?X1r ?N1r ?h1r ?h2r ?U1r ?_) | (with_reducible refine' sC_y ?F1r ?X1r ?N1r ?h1r ?h2r ?U1r ?_)); (case F1r => k_asm); (case X1r => k_asm); (case N1r => k_asm); (case h1r => k_mem); (case h2r => k_mem); (case U1r => (first | exact upd_nd 0 (by assumption) rfl | exact upd_nd 1 (by assumption) rfl | exact upd_nd 2 (by assumption) rfl | exact upd_nd 3 (by assumption) rfl | exact upd_nd 4 (by assumption) rfl | exact upd_nd 5 (by assumption) rfl | k_upd)); k_whole) | (refine' set_dict ?k1r ?k2r ?k3r ?k4r ?k5r ?k6r ?k7r ?k8r ?k9r ?k10r ?k11r ?k12r ?k13r ?_; (case k1r => k_asm); (case k2r => k_asm); (case k3r => k_asm); (case k4r => k_inst); (case k5r => exact rfl); (case k6r => k_is); (case k7r => k_is); (case k8r => k_is); (case k9r => k_is); (case k10r => k_get); (case k11r => k_put); (case k12r => (first | exact upd_nd 0 (by assumption) rfl | exact upd_nd 1 (by assumption) rfl | exact upd_nd 2 (by assumption) rfl | exact upd_nd 3 (by assumption) rfl | exact upd_nd 4 (by assumption) rfl | exact upd_nd 5 (by assumption) rfl | k_upd)); (case k13r => exact Nat.le_of_ble_eq_true rfl); k_whole)); (refine (?_ : let l9 := _; ∀ h', Fr _ _ h' _ → News _ _ h' l9 → _)); intro l9r h'r F'r N'r; (try k_sweep))
  k_with "truthy ref" => (k_here; k_dflt ((refine' tN ?F1r ?X1r ?N1r ?h1r ?h2r ?_); (case F1r => k_asm); (case X1r => k_asm); (case N1r => k_asm); (case h1r => k_mem); (case h2r => k_mem); k_whole))
  k_with "storeName" => (k_here; k_dflt (refine' storeX_L ?F1r ?N1r ?_ ?a1r ?b1r; (case F1r => k_asm); (case N1r => k_asm); (case a1r => rfl); (case b1r => rfl); k_whole); (refine (?_ : let m9 := _; ∀ h', Fr _ _ h' m9 → News _ _ h' _ → _)); intro m9r h'r F'r N'r; (try k_sweep))
  k_with "subscriptTail" => (k_here; (with_reducible show wpAny _ _ (subscriptTail _ _ (Value.ref _) (Value.int _ _)) _ _ _); k_dflt (refine' kda_item (knd := PySem.intKind _ _) ?Nr ?mr ?dr (intKind_is _ _ _ _) ?vr ?_; (case Nr => k_asm); (case mr => k_mem); (case dr => assumption); (case vr => assumption)))
  k_with "getItem ref int" => (k_here; k_dflt (refine' gi_sym ?Nr ?mr ?dr ?vr ?_; (case Nr => k_asm); (case mr => k_mem); (case dr => assumption); (case vr => assumption); k_whole))
  k_with "call builtin:len" => (k_here; (with_reducible show wpAny _ _ (call (Value.builtin "len") [Value.ref _]) _ _ _); k_dflt (refine' kda_len (knd := PySem.intKind _ _) ?Nr ?mr ?dr ?lr ?zr ?_; (case Nr => k_asm); (case mr => k_mem); (case dr => assumption); (case lr => assumption); (case zr => first | assumption | omega); k_whole))
  k_with "compareOp In int ref" => (k_here; k_dflt (first
    | (refine' kda_in (knd := PySem.intKind _ _) ?Nr ?mr ?dr ?lr (intKind_is _ _ _ _) true ?br ?_; (case Nr => k_asm); (case mr => k_mem); (case dr => assumption); (case lr => assumption); (case br => exact Option.isSome_iff_exists.mpr ⟨_, by assumption⟩); k_whole)
    | (refine' kda_in (knd := PySem.intKind _ _) ?Nr ?mr ?dr ?lr (intKind_is _ _ _ _) false ?br ?_; (case Nr => k_asm); (case mr => k_mem); (case dr => assumption); (case lr => assumption); (case br => exact Option.isSome_eq_false_iff.mpr (Option.isNone_iff_eq_none.mpr (by assumption))); k_whole)))
  k_with "setItem ref int" => (k_here; k_dflt (refine' kda_set (knd := PySem.intKind _ _) ?Fr ?Nr ?Ur ?dr (intKind_is _ _ _ _) ?zr ?_; (case Fr => k_asm); (case Nr => k_asm); (case Ur => (first | exact updF_nd 0 (by assumption) rfl | exact updF_nd 1 (by assumption) rfl | exact updF_nd 2 (by assumption) rfl | exact updF_nd 3 (by assumption) rfl | exact updF_nd 4 (by assumption) rfl | exact updF_nd 5 (by assumption) rfl | k_updF)); (case dr => assumption); (case zr => assumption)); intro h'r o'r F'r N'r hd'r; (try dsimp only at N'r); (let n7r := newsOf N'r); (have N7r : News _ _ _ n7r := N'r))
  k_with "getMethod ref" => (k_here; (with_reducible show wpAny _ _ (getMethod (Value.ref _) (Str.ofString "pop") _) _ _ _); k_dflt (refine' kob_method (knd := PySem.intKind _ _) PySem.F.slot_dict_pop PySem.F.type_dict_pop ?Nr ?mr ?dr ?_; (case Nr => k_asm); (case mr => k_mem); (case dr => assumption)))
  k_with "getMethod ref" => (k_here; (with_reducible show wpAny _ _ (getMethod (Value.ref _) (Str.ofString "get") _) _ _ _); k_dflt (refine' kdg_method (knd := PySem.intKind _ _) ?Nr ?mr ?dr ?_; (case Nr => k_asm); (case mr => k_mem); (case dr => assumption)))
  k_with "call builtin:dict.pop" => (k_here; (with_reducible show wpAny _ _ (call (Value.builtin "dict.pop") [Value.ref _, Value.int _ _]) _ _ _); k_dflt (refine' kob_pop (knd := PySem.intKind _ _) (more := []) ?Fr ?Nr ?Ur ?dr (intKind_is _ _ _ _) (.inl rfl) (by rfl) (PySem.F.args_dict_pop_2 _ _) ?lr ?zr ?_; (case Fr => k_asm); (case Nr => k_asm); (case Ur => (first | exact updF_nd 0 (by assumption) rfl | exact updF_nd 1 (by assumption) rfl | exact updF_nd 2 (by assumption) rfl | exact updF_nd 3 (by assumption) rfl | exact updF_nd 4 (by assumption) rfl | exact updF_nd 5 (by assumption) rfl | k_updF)); (case dr => assumption); (case lr => assumption); (case zr => assumption)); intro h'r o'r F'r N'r hd'r; (try dsimp only at N'r); (let n7r := newsOf N'r); (have N7r : News _ _ _ n7r := N'r))
  k_with "call builtin:dict.get" => (k_here; (with_reducible show wpAny _ _ (call (Value.builtin "dict.get") [Value.ref _, Value.int _ _, _]) _ _ _); k_dflt (refine' kdg_get2 (knd := PySem.intKind _ _) ?Nr ?mr ?dr ?lr (intKind_is _ _ _ _) _ ?vr ?_; (case Nr => k_asm); (case mr => k_mem); (case dr => assumption); (case lr => assumption); (case vr => assumption)); (try dsimp only [Option.getD]))
  k_with "enter" => (refine' code_def ?k1r ?k2r ?k3r ?k4r ?k5r ?kAr ?kFr ?kKr ?k6r ?k7r ?k8r ?k9r ?kBr ?_ ?c2r ?c3r ?c4r ?c5r; (case kAr => exact rfl); (case kFr => exact rfl); (case kKr => first | exact rfl | assumption); (case k1r => k_asm); (case k2r => k_asm); (case k3r => k_asm); (case k4r => k_asm); (case k5r => k_asm); (case k6r => k_is); (case k7r => k_is); (case k8r => (first | exact room9 0 (by assumption) rfl | exact room9 1 (by assumption) rfl | exact room9 2 (by assumption) rfl | exact room9 3 (by assumption) rfl | exact room9 4 (by assumption) rfl | exact room9 5 (by assumption) rfl | exact room9 6 (by assumption) rfl | exact room9 7 (by assumption) rfl | exact room9 8 (by assumption) rfl | ktr_room)); (case k9r => first | exact BindsTo.of_eq rfl | exact binds_K (by k_in) rfl (by k_is) rfl rfl rfl); (case c5r => decide); (case kBr => exact locs rfl); (case c2r => exact rfl); (case c3r => exact rfl); (case c4r => exact rfl); k_whole; (refine (?_ : let m9 := _; ∀ g L h, Fr _ _ g _ → Fr _ _ h m9 → _)); intro m9r g'r L'r h'r FG'r F'r N'r B'r X'r T'r; (try dsimp only); (try k_fold); (refine (?_ : let e9 := _; let A9 := _; wpAny _ A9 (execs _ e9) _ _ _)); intro e9r A9r; (try ((with_reducible refine gen_tk ?_); intro tk9r)))
  trivial
section
variable {w : World} {p : Program} {loose : List Str} {mean : ExcName → Option Value} {mg mb : Str → Option Value}
  {dp un : Nat} {gd : Option (List Code)} {cn : Str} {cs : Scope} {a : Addr} {ccd : Value} {cl : List (Str × Addr)} {outer : List Env} {A₀ : Around} {base h₀ : Heap} {L : Addr} {m : Str → Option Value} {s : Shared} {Q E : Value → Shared → Prop}
  (B : Below A₀ base outer h₀) (F : Fr h₀ L s.heap m) (X : (hd.heap_39 w.params).In h₀) (T : Top p loose mean mg mb h₀) (hk : cs.kind = .function) (hdp : dp + 3 < recursionLimit)
include B F X T hk hdp
variable {c : CFix} {st : CSt} {R : List (Addr × Obj)} {k v : Int} {tk0 tv0 : Tok} {dv : Value}
set_option maxRecDepth 100000 in
set_option maxHeartbeats 8000000 in
theorem get_none (N : News h₀ L s.heap (Led c st R)) (G : Good w c st R) (hk0 : k ∉ st.line.map Node.k)
  (ret : Back h₀ L m s Q dv (Led c st R)) :
  wpAny (model PySem.Challenge.rw_iy0004_01.row.prog w) (ktrTop dp un gd cn cs L a ccd cl outer) (call (.ref 102) [.ref c.ca, .int k tk0, dv]) Q E s := by
  revert X; k_fill; intro X
  let l9 := newsOf N
  have N9 : News _ _ _ l9 := N
  have hv := valueAt_none G.hkv hk0
  have hoc := G.hoc
  have hdc := G.hdc
  have hca : (c.ca, instObj 175 c.cd) ∈ seg c.ga .none st.line .none ++ R := List.mem_append_right _ G.hca
  refine wpAny_call ?_
  k_dflt ktr_enter
  k_steps
  all_goals (first | exact ret _ _ (by assumption) (by assumption) | w_report)
set_option maxRecDepth 100000 in
set_option maxHeartbeats 8000000 in
theorem get_some {pre post : List Node} {n : Node} (N : News h₀ L s.heap (Led c st R)) (G : Good w c st R) (hl : st.line = pre ++ n :: post)
  (ret : Back h₀ L m s Q n.V (Led c { st with line := n :: (pre ++ post) } R)) :
  wpAny (model PySem.Challenge.rw_iy0004_01.row.prog w) (ktrTop dp un gd cn cs L a ccd cl outer) (call (.ref 102) [.ref c.ca, .int n.k tk0, dv]) Q E s := by
  revert X; k_fill; intro X
  let l9 := newsOf N
  have N9 : News _ _ _ l9 := N
  have hn : n ∈ st.line := by rw [hl]; exact List.mem_append_right _ (.head _)
  have hv := G.val hn
  have hoc := G.hoc
  have hdc := G.hdc
  have hca : (c.ca, instObj 175 c.cd) ∈ seg c.ga .none st.line .none ++ R := List.mem_append_right _ G.hca
  have hna : (n.a, instObj 39 n.d) ∈ R := G.hin n hn
  refine wpAny_call ?_
  k_dflt ktr_enter
  k_steps
  refine' ra_G ?g1 ?g2 ?g3 ?g4 rfl ?g6 ?g7 G hl ?_
  case g1 => k_asm
  case g2 => k_asm
  case g3 => k_asm
  case g4 => k_asm
  case g6 => (first | exact room9 0 (by assumption) rfl | exact room9 1 (by assumption) rfl | exact room9 2 (by assumption) rfl | exact room9 3 (by assumption) rfl | exact room9 4 (by assumption) rfl | exact room9 5 (by assumption) rfl | exact room9 6 (by assumption) rfl | exact room9 7 (by assumption) rfl | exact room9 8 (by assumption) rfl | ktr_room)
  case g7 => assumption
  intro h9 tk9 F9 N9
  try dsimp only
  try k_fold
  have hin1 : (n.a, instObj 39 n.d) ∈ seg c.ga (.ref n.a) (pre ++ post) .none ++ R := List.mem_append_right _ hna
  unfold Led at N9
  simp only [seg, List.cons_append] at N9
  k_steps
  refine ret _ _ (by assumption) ?_
  unfold Led
  simp only [seg, List.cons_append]
  assumption
end
end
section
-- LUse
open PySem PySem.W PySem.Calls PyProof.Rows
theorem rules_LUse0 : True := by
  k_with_none
  k_with "ne" => (refine neN ?_; (try dsimp only); first | assumption | (apply Ne.symm; assumption))
  k_with "tone" => (refine neN ?_; (try dsimp only); first | assumption | (apply Ne.symm; assumption))
  k_with "mem" => (first | assumption | exact mem_at 0 rfl | exact mem_at 1 rfl | exact mem_at 2 rfl | exact mem_at 3 rfl | exact mem_at 4 rfl | exact mem_at 5 rfl | exact mem_dr 1 (by assumption) | exact mem_dr 2 (by assumption) | exact mem_dr 3 (by assumption) | exact mem_dr 4 (by assumption) | exact mem_dr 5 (by assumption))
  k_with "getAttr ref" => (k_here; k_dflt ((first | (with_reducible refine' gN_p ?F1r ?X1r ?N1r ?h1r ?h2r ?v1r ?_) | (with_reducible refine' gN_nx ?F1r ?X1r ?N1r ?h1r ?h2r ?v1r ?_) | (with_reducible refine' gN_k ?F1r ?X1r ?N1r ?h1r ?h2r ?v1r ?_) | (with_reducible refine' gN_v ?F1r ?X1r ?N1r ?h1r ?h2r ?v1r ?_) | (with_reducible refine' gN_c ?F1r ?X1r ?N1r ?h1r ?h2r ?v1r ?_) | (with_reducible refine' gC_c ?F1r ?X1r ?N1r ?h1r ?h2r ?v1r ?_) | (with_reducible refine' gC_r ?F1r ?X1r ?N1r ?h1r ?h2r ?v1r ?_) | (with_reducible refine' gC_l ?F1r ?X1r ?N1r ?h1r ?h2r ?v1r ?_) | (with_reducible refine' gC_z ?F1r ?X1r ?N1r ?h1r ?h2r ?v1r ?_) | (with_reducible refine' gC_y ?F1r ?X1r ?N1r ?h1r ?h2r ?v1r ?_)); (case F1r => k_asm); (case X1r => k_asm); (case N1r => k_asm); (case h1r => k_mem); (case h2r => k_mem); (case v1r => k_handed); k_whole))
  k_with "setAttr ref" => (k_here; k_dflt (first | ((first | (with_reducible refine' sN_p ?F1r ?X1r ?N1r ?h1r ?h2r ?U1r ?_) | (with_reducible refine' sN_nx ?F1r ?X1r ?N1r ?h1r ?h2r ?U1r ?_) | (with_reducible refine' sN_v ?F1r ?X1r ?N1r ?h1r ?h2r ?U1r ?_) | (with_reducible refine' sN_c ?F1r ?X1r ?N1r ?h1r ?h2r ?U1r ?_) | (with_reducible refine' sC_r ?F1r ?X1r ?N1r ?h1r ?h2r ?U1r ?_) | (with_reducible refine' sC_l ?F1r ?X1r ?N1r ?h1r ?h2r ?U1r ?_) | (with_reducible refine' sC_z ?F1r ?X1r ?N1r ?h1r ?h2r ?U1r ?_) | (with_reducible refine' sC_y ?F1r ?X1r ?N1r ?h1r ?h2r ?U1r ?_)); (case F1r => k_asm); (case X1r => k_asm); (case N1r => k_asm); (case h1r => k_mem); (case h2r => k_mem); (case U1r => (first | exact upd_nd 0 (by assumption) rfl | exact upd_nd 1 (by assumption) rfl | exact upd_nd 2 (by assumption) rfl | exact upd_nd 3 (by assumption) rfl | exact upd_nd 4 (by assumption) rfl | exact upd_nd 5 (by assumption) rfl | k_upd)); k_whole) | (refine' set_dict ?k1r ?k2r ?k3r ?k4r ?k5r ?k6r ?k7r ?k8r ?k9r ?k10r ?k11r ?k12r ?k13r ?_; (case k1r => k_asm); (case k2r => k_asm); (case k3r => k_asm); (case k4r => k_inst); (case k5r => exact rfl); (case k6r => k_is); (case k7r => k_is); (case k8r => k_is); (case k9r => k_is); (case k10r => k_get); (case k11r => k_put); (case k12r => (first | exact upd_nd 0 (by assumption) rfl | exact upd_nd 1 (by assumption) rfl | exact upd_nd 2 (by assumption) rfl | exact upd_nd 3 (by assumption) rfl | exact upd_nd 4 (by assumption) rfl | exact upd_nd 5 (by assumption) rfl | k_upd)); (case k13r => exact Nat.le_of_ble_eq_true rfl); k_whole)); (refine (?_ : let l9 := _; ∀ h', Fr _ _ h' _ → News _ _ h' l9 → _)); intro l9r h'r F'r N'r; (try k_sweep))
  k_with "truthy ref" => (k_here; k_dflt ((refine' tN ?F1r ?X1r ?N1r ?h1r ?h2r ?_); (case F1r => k_asm); (case X1r => k_asm); (case N1r => k_asm); (case h1r => k_mem); (case h2r => k_mem); k_whole))
  k_with "storeName" => (k_here; k_dflt (refine' storeX_L ?F1r ?N1r ?_ ?a1r ?b1r; (case F1r => k_asm); (case N1r => k_asm); (case a1r => rfl); (case b1r => rfl); k_whole); (refine (?_ : let m9 := _; ∀ h', Fr _ _ h' m9 → News _ _ h' _ → _)); intro m9r h'r F'r N'r; (try k_sweep))
  k_with "subscriptTail" => (k_here; (with_reducible show wpAny _ _ (subscriptTail _ _ (Value.ref _) (Value.int _ _)) _ _ _); k_dflt (refine' kda_item (knd := PySem.intKind _ _) ?Nr ?mr ?dr (intKind_is _ _ _ _) ?vr ?_; (case Nr => k_asm); (case mr => k_mem); (case dr => assumption); (case vr => assumption)))
  k_with "getItem ref int" => (k_here; k_dflt (refine' gi_sym ?Nr ?mr ?dr ?vr ?_; (case Nr => k_asm); (case mr => k_mem); (case dr => assumption); (case vr => assumption); k_whole))
  k_with "call builtin:len" => (k_here; (with_reducible show wpAny _ _ (call (Value.builtin "len") [Value.ref _]) _ _ _); k_dflt (refine' kda_len (knd := PySem.intKind _ _) ?Nr ?mr ?dr ?lr ?zr ?_; (case Nr => k_asm); (case mr => k_mem); (case dr => assumption); (case lr => assumption); (case zr => first | assumption | lia); k_whole))
  k_with "compareOp In int ref" => (k_here; k_dflt (first
    | (refine' kda_in (knd := PySem.intKind _ _) ?Nr ?mr ?dr ?lr (intKind_is _ _ _ _) true ?br ?_; (case Nr => k_asm); (case mr => k_mem); (case dr => assumption); (case lr => assumption); (case br => exact Option.isSome_iff_exists.mpr ⟨_, by assumption⟩); k_whole)
    | (refine' kda_in (knd := PySem.intKind _ _) ?Nr ?mr ?dr ?lr (intKind_is _ _ _ _) false ?br ?_; (case Nr => k_asm); (case mr => k_mem); (case dr => assumption); (case lr => assumption); (case br => exact Option.isSome_eq_false_iff.mpr (Option.isNone_iff_eq_none.mpr (by assumption))); k_whole)))
  k_with "setItem ref int" => (k_here; k_dflt (refine' kda_set (knd := PySem.intKind _ _) ?Fr ?Nr ?Ur ?dr (intKind_is _ _ _ _) ?zr ?_; (case Fr => k_asm); (case Nr => k_asm); (case Ur => (first | exact updF_nd 0 (by assumption) rfl | exact updF_nd 1 (by assumption) rfl | exact updF_nd 2 (by assumption) rfl | exact updF_nd 3 (by assumption) rfl | exact updF_nd 4 (by assumption) rfl | exact updF_nd 5 (by assumption) rfl | k_updF)); (case dr => assumption); (case zr => assumption)); intro h'r o'r F'r N'r hd'r; (try dsimp only at N'r); (let n7r := newsOf N'r); (have N7r : News _ _ _ n7r := N'r))
  k_with "getMethod ref" => (k_here; (with_reducible show wpAny _ _ (getMethod (Value.ref _) (Str.ofString "pop") _) _ _ _); k_dflt (refine' kob_method (knd := PySem.intKind _ _) PySem.F.slot_dict_pop PySem.F.type_dict_pop ?Nr ?mr ?dr ?_; (case Nr => k_asm); (case mr => k_mem); (case dr => assumption)))
  k_with "getMethod ref" => (k_here; (with_reducible show wpAny _ _ (getMethod (Value.ref _) (Str.ofString "get") _) _ _ _); k_dflt (refine' kdg_method (knd := PySem.intKind _ _) ?Nr ?mr ?dr ?_; (case Nr => k_asm); (case mr => k_mem); (case dr => assumption)))
  k_with "call builtin:dict.pop" => (k_here; (with_reducible show wpAny _ _ (call (Value.builtin "dict.pop") [Value.ref _, Value.int _ _]) _ _ _); k_dflt (refine' kob_pop (knd := PySem.intKind _ _) (more := []) ?Fr ?Nr ?Ur ?dr (intKind_is _ _ _ _) (.inl rfl) (by rfl) (PySem.F.args_dict_pop_2 _ _) ?lr ?zr ?_; (case Fr => k_asm); (case Nr => k_asm); (case Ur => (first | exact updF_nd 0 (by assumption) rfl | exact updF_nd 1 (by assumption) rfl | exact updF_nd 2 (by assumption) rfl | exact updF_nd 3 (by assumption) rfl | exact updF_nd 4 (by assumption) rfl | exact updF_nd 5 (by assumption) rfl | k_updF)); (case dr => assumption); (case lr => assumption); (case zr => assumption)); intro h'r o'r F'r N'r hd'r; (try dsimp only at N'r); (let n7r := newsOf N'r); (have N7r : News _ _ _ n7r := N'r))
  k_with "call builtin:dict.get" => (k_here; (with_reducible show wpAny _ _ (call (Value.builtin "dict.get") [Value.ref _, Value.int _ _, _]) _ _ _); k_dflt (refine' kdg_get2 (knd := PySem.intKind _ _) ?Nr ?mr ?dr ?lr (intKind_is _ _ _ _) _ ?vr ?_; (case Nr => k_asm); (case mr => k_mem); (case dr => assumption); (case lr => assumption); (case vr => assumption)); (try dsimp only [Option.getD]))
  k_with "enter" => (refine' code_def ?k1r ?k2r ?k3r ?k4r ?k5r ?kAr ?kFr ?kKr ?k6r ?k7r ?k8r ?k9r ?kBr ?_ ?c2r ?c3r ?c4r ?c5r; (case kAr => exact rfl); (case kFr => exact rfl); (case kKr => first | exact rfl | assumption); (case k1r => k_asm); (case k2r => k_asm); (case k3r => k_asm); (case k4r => k_asm); (case k5r => k_asm); (case k6r => k_is); (case k7r => k_is); (case k8r => (first | exact room9 0 (by assumption) rfl | exact room9 1 (by assumption) rfl | exact room9 2 (by assumption) rfl | exact room9 3 (by assumption) rfl | exact room9 4 (by assumption) rfl | exact room9 5 (by assumption) rfl | exact room9 6 (by assumption) rfl | exact room9 7 (by assumption) rfl | exact room9 8 (by assumption) rfl | ktr_room)); (case k9r => first | exact BindsTo.of_eq rfl | exact binds_K (by k_in) rfl (by k_is) rfl rfl rfl); (case c5r => decide); (case kBr => exact locs rfl); (case c2r => exact rfl); (case c3r => exact rfl); (case c4r => exact rfl); k_whole; (refine (?_ : let m9 := _; ∀ g L h, Fr _ _ g _ → Fr _ _ h m9 → _)); intro m9r g'r L'r h'r FG'r F'r N'r B'r X'r T'r; (try dsimp only); (try k_fold); (refine (?_ : let e9 := _; let A9 := _; wpAny _ A9 (execs _ e9) _ _ _)); intro e9r A9r; (try ((with_reducible refine gen_tk ?_); intro tk9r)))
  k_with "eval Name" => (k_here; k_dflt (refine' nameX_F ?Nr ?cr ?mr ?dr ?_ ?ar ?br ?er ?fr; (case ar => rfl); (case br => rfl); (case er => decide); (case fr => decide); (case Nr => k_asm); (case cr => rfl); (case mr => k_mem); (case dr => assumption); k_whole))
  k_with "getMethod ref" => (k_here; (with_reducible show wpAny _ _ (getMethod (Value.ref _) (PySem.Str.ofString "remove") _) _ _ _); k_dflt (refine' kl_method ?Nr ?mr PySem.F.slot_list_remove PySem.F.type_list_remove ?_; (case Nr => k_asm); (case mr => k_mem)))
  k_with "call builtin:list.remove" => (k_here; (with_reducible show wpAny _ _ (call (Value.builtin _) [Value.ref _, Value.int _ _]) _ _ _); k_dflt (refine' kl_removeI ?Fr ?Nr ?ir ?or ?Ur ?zr ?_; (case Fr => k_asm); (case Nr => k_asm); (case Ur => k_upd); (case ir => assumption); (case or => assumption); (case zr => assumption)); intro h'r F'r N'r; (try dsimp only at N'r))
  k_with "call builtin:list.insert" => (k_here; (with_reducible show wpAny _ _ (call (Value.builtin _) [Value.ref _, Value.int _ _, _]) _ _ _); k_dflt (refine' kl_insert0 ?Fr ?Nr ?Ur ?zr ?_; (case Fr => k_asm); (case Nr => k_asm); (case Ur => k_upd); (case zr => assumption)); intro h'r F'r N'r; (try dsimp only at N'r))
  trivial
noncomputable abbrev UseSpec (w : World) (p : Program) (loose : List Str) (mean : ExcName → Option Value) (mg mb : Str → Option Value) (fa : Addr) (c : LFix) (S₀ : List (Addr × Obj)) : Prop :=
  ∀ (dp un : Nat) (gd : Option (List Code)) (cn : Str) (cs : Scope) (a : Addr) (ccd : Value) (cl : List (Str × Addr)) (outer : List Env) (A₀ : Around) (base h₀ : Heap) (L : Addr) (m : Str → Option Value) (s : Shared) (Q E : Value → Shared → Prop)
    (st : LSt) (pre post : List LEnt) (e : LEnt) (k : Int) (tk : Tok) (R : List (Addr × Obj)),
    Below A₀ base outer h₀ → Fr h₀ L s.heap m → (hd.heap_39 w.params).In h₀ → News h₀ L s.heap (LLed c st R) → Top p loose mean mg mb h₀ → cs.kind = .function → dp + 1 < recursionLimit →
    (∀ x ∈ S₀, x ∈ R) → (Ads (LLed c st R)).Nodup → st.ents = pre ++ e :: post → e.k = k → (∀ x ∈ pre, x.k ≠ e.k) → st.ents.length ≤ 4096 →
    Back h₀ L m s Q .none (LLed c { st with ents := { e with kt := tk } :: (pre ++ post), ln := st.ln + 1 + 1 } R) →
    wpAny (model PySem.Challenge.rw_iy0004_01.row.prog w) (ktrTop dp un gd cn cs L a ccd cl outer) (call (.ref fa) [.int k tk]) Q E s
set_option maxRecDepth 100000 in
set_option maxHeartbeats 1000000 in
theorem use_ok {w : World} {p : Program} {loose : List Str} {mean : ExcName → Option Value} {mg mb : Str → Option Value} {fa lA c' : Addr} {c : LFix} {q : Str} {doc pm ctv : Value} {ocode ocell : Obj} {vs : Array Value} {t0 : Tok}
    (h1 : ocell.data = .cell (some (.ref c.la))) (h2 : ocode.data = .fields vs) (h3 : vs[1]? = some (.str q t0)) :
    UseSpec w p loose mean mg mb fa c [(fa, fn3 "use" q 6 [(Str.ofString "line", lA)] doc pm c' ctv), (c', ocode), (lA, ocell)] := by
  intro dp un gd cn cs a ccd cl outer A₀ base h₀ L m s Q E st pre post e k0 tk0 R B F X N T hk hdp hS hn hl hek hpre hlen ret
  subst hek
  revert X; k_fill; intro X
  have m1 := hS _ (List.Mem.head _)
  have m2 := hS _ (List.Mem.tail _ (List.Mem.head _))
  have m3 := hS _ (List.Mem.tail _ (List.Mem.tail _ (List.Mem.head _)))
  have eb : fnBody 6 = _ :: _ := rfl
  have es : fnScope 6 = Scope.mk _ _ _ _ _ := rfl
  have ea : fnArgs 6 = Arguments.mk _ _ _ _ _ _ _ := rfl
  unfold fn3 at m1
  rw [eb, es, ea] at m1
  clear eb es ea
  obtain ⟨d1, d2, d3, hoff⟩ := nd3 hn
  have elv : lvals st.ents = lvals pre ++ Value.int e.k e.kt :: lvals post := by rw [hl]; simp [lvals]
  have hll : (lvals st.ents).length = st.ents.length := by simp [lvals]
  unfold LLed at N
  rw [elv] at hll N
  have hi : ∀ z ∈ lvals pre ++ Value.int e.k e.kt :: lvals post, ∃ a t, z = Value.int a t := by
    rw [← elv]
    intro z hz
    obtain ⟨x, _, rfl⟩ := List.mem_map.mp hz
    exact ⟨_, _, rfl⟩
  have ho : ∀ z ∈ lvals pre, ∀ a t, z = Value.int a t → a ≠ e.k := by
    intro z hz a t e1
    obtain ⟨x, hx, rfl⟩ := List.mem_map.mp hz
    cases e1
    exact hpre x hx
  have hz1 : (lvals pre ++ Value.int e.k e.kt :: lvals post).length ≤ sizeLine := by rw [hll, sizeLine_eq]; lia
  have hz2 : (lvals pre ++ lvals post).length ≤ sizeLine := by
    simp only [List.length_append, List.length_cons] at hz1 ⊢
    lia
  clear hi
  have hi : ∀ z ∈ lvals pre ++ Value.int e.k e.kt :: lvals post, ∃ a t, z = Value.int a t := by
    rw [← elv]
    intro z hz
    obtain ⟨x, _, rfl⟩ := List.mem_map.mp hz
    exact ⟨_, _, rfl⟩
  refine wpAny_call ?_
  refine' code_nest ?k1 ?k2 ?k3 ?k4 ?k5 ?kA ?kF ?kK ?k6 ?k7 ?k8 ?k9 ?kB ?_ ?c2 ?c3 ?c4 ?c5
  case kA => exact rfl
  case kF => exact rfl
  case kK => assumption
  case k1 => k_asm
  case k2 => k_asm
  case k3 => k_asm
  case k4 => k_asm
  case k5 => k_asm
  case k6 => exact .tail _ (.tail _ (.tail _ m1))
  case k7 => exact codeRec_news (by k_asm) (.tail _ (.tail _ (.tail _ m2))) h2 h3
  case k8 => (first | exact room9 0 (by assumption) rfl | exact room9 1 (by assumption) rfl | exact room9 2 (by assumption) rfl | exact room9 3 (by assumption) rfl | exact room9 4 (by assumption) rfl | exact room9 5 (by assumption) rfl | exact room9 6 (by assumption) rfl | exact room9 7 (by assumption) rfl | exact room9 8 (by assumption) rfl | ktr_room)
  case k9 => exact BindsTo.of_eq rfl
  case c5 => decide
  case kB => exact locs rfl
  case c2 => exact rfl
  case c3 => exact rfl
  case c4 => exact rfl
  intro g' L' h' FG' F' N' B' X' T'
  try dsimp only
  try k_fold
  k_steps
  (rename News _ _ _ _ => N9)
  refine' ret _ _ (by assumption) ?_
  have e9 : lvals ({ e with kt := tk0 } :: (pre ++ post)) = Value.int e.k tk0 :: (lvals pre ++ lvals post) := by simp [lvals]
  unfold LLed
  simp only [e9]
  exact N9
end
section
-- LAdd
open PySem PySem.W PySem.Calls PyProof.Rows
theorem rules_LAdd0 : True := by
  k_with_none
  k_with "ne" => (refine neN ?_; (try dsimp only); first | assumption | (apply Ne.symm; assumption))
  k_with "tone" => (refine neN ?_; (try dsimp only); first | assumption | (apply Ne.symm; assumption))
  k_with "mem" => (first | assumption | exact mem_at 0 rfl | exact mem_at 1 rfl | exact mem_at 2 rfl | exact mem_at 3 rfl | exact mem_at 4 rfl | exact mem_at 5 rfl | exact mem_dr 1 (by assumption) | exact mem_dr 2 (by assumption) | exact mem_dr 3 (by assumption) | exact mem_dr 4 (by assumption) | exact mem_dr 5 (by assumption))
  k_with "getAttr ref" => (k_here; k_dflt ((first | (with_reducible refine' gN_p ?F1r ?X1r ?N1r ?h1r ?h2r ?v1r ?_) | (with_reducible refine' gN_nx ?F1r ?X1r ?N1r ?h1r ?h2r ?v1r ?_) | (with_reducible refine' gN_k ?F1r ?X1r ?N1r ?h1r ?h2r ?v1r ?_) | (with_reducible refine' gN_v ?F1r ?X1r ?N1r ?h1r ?h2r ?v1r ?_) | (with_reducible refine' gN_c ?F1r ?X1r ?N1r ?h1r ?h2r ?v1r ?_) | (with_reducible refine' gC_c ?F1r ?X1r ?N1r ?h1r ?h2r ?v1r ?_) | (with_reducible refine' gC_r ?F1r ?X1r ?N1r ?h1r ?h2r ?v1r ?_) | (with_reducible refine' gC_l ?F1r ?X1r ?N1r ?h1r ?h2r ?v1r ?_) | (with_reducible refine' gC_z ?F1r ?X1r ?N1r ?h1r ?h2r ?v1r ?_) | (with_reducible refine' gC_y ?F1r ?X1r ?N1r ?h1r ?h2r ?v1r ?_)); (case F1r => k_asm); (case X1r => k_asm); (case N1r => k_asm); (case h1r => k_mem); (case h2r => k_mem); (case v1r => k_handed); k_whole))
  k_with "setAttr ref" => (k_here; k_dflt (first | ((first | (with_reducible refine' sN_p ?F1r ?X1r ?N1r ?h1r ?h2r ?U1r ?_) | (with_reducible refine' sN_nx ?F1r ?X1r ?N1r ?h1r ?h2r ?U1r ?_) | (with_reducible refine' sN_v ?F1r ?X1r ?N1r ?h1r ?h2r ?U1r ?_) | (with_reducible refine' sN_c ?F1r ?X1r ?N1r ?h1r ?h2r ?U1r ?_) | (with_reducible refine' sC_r ?F1r ?X1r ?N1r ?h1r ?h2r ?U1r ?_) | (with_reducible refine' sC_l ?F1r ?X1r ?N1r ?h1r ?h2r ?U1r ?_) | (with_reducible refine' sC_z ?F1r ?X1r ?N1r ?h1r ?h2r ?U1r ?_) | (with_reducible refine' sC_y ?F1r ?X1r ?N1r ?h1r ?h2r ?U1r ?_)); (case F1r => k_asm); (case X1r => k_asm); (case N1r => k_asm); (case h1r => k_mem); (case h2r => k_mem); (case U1r => (first | exact upd_nd 0 (by assumption) rfl | exact upd_nd 1 (by assumption) rfl | exact upd_nd 2 (by assumption) rfl | exact upd_nd 3 (by assumption) rfl | exact upd_nd 4 (by assumption) rfl | exact upd_nd 5 (by assumption) rfl | k_upd)); k_whole) | (refine' set_dict ?k1r ?k2r ?k3r ?k4r ?k5r ?k6r ?k7r ?k8r ?k9r ?k10r ?k11r ?k12r ?k13r ?_; (case k1r => k_asm); (case k2r => k_asm); (case k3r => k_asm); (case k4r => k_inst); (case k5r => exact rfl); (case k6r => k_is); (case k7r => k_is); (case k8r => k_is); (case k9r => k_is); (case k10r => k_get); (case k11r => k_put); (case k12r => (first | exact upd_nd 0 (by assumption) rfl | exact upd_nd 1 (by assumption) rfl | exact upd_nd 2 (by assumption) rfl | exact upd_nd 3 (by assumption) rfl | exact upd_nd 4 (by assumption) rfl | exact upd_nd 5 (by assumption) rfl | k_upd)); (case k13r => exact Nat.le_of_ble_eq_true rfl); k_whole)); (refine (?_ : let l9 := _; ∀ h', Fr _ _ h' _ → News _ _ h' l9 → _)); intro l9r h'r F'r N'r; (try k_sweep))
  k_with "truthy ref" => (k_here; k_dflt ((refine' tN ?F1r ?X1r ?N1r ?h1r ?h2r ?_); (case F1r => k_asm); (case X1r => k_asm); (case N1r => k_asm); (case h1r => k_mem); (case h2r => k_mem); k_whole))
  k_with "storeName" => (k_here; k_dflt (refine' storeX_L ?F1r ?N1r ?_ ?a1r ?b1r; (case F1r => k_asm); (case N1r => k_asm); (case a1r => rfl); (case b1r => rfl); k_whole); (refine (?_ : let m9 := _; ∀ h', Fr _ _ h' m9 → News _ _ h' _ → _)); intro m9r h'r F'r N'r; (try k_sweep))
  k_with "subscriptTail" => (k_here; (with_reducible show wpAny _ _ (subscriptTail _ _ (Value.ref _) (Value.int _ _)) _ _ _); k_dflt (refine' kda_item (knd := PySem.intKind _ _) ?Nr ?mr ?dr (intKind_is _ _ _ _) ?vr ?_; (case Nr => k_asm); (case mr => k_mem); (case dr => assumption); (case vr => assumption)))
  k_with "call builtin:len" => (k_here; (with_reducible show wpAny _ _ (call (Value.builtin "len") [Value.ref _]) _ _ _); k_dflt (refine' kda_len (knd := PySem.intKind _ _) ?Nr ?mr ?dr ?lr ?zr ?_; (case Nr => k_asm); (case mr => k_mem); (case dr => assumption); (case lr => assumption); (case zr => first | assumption | lia); k_whole))
  k_with "compareOp In int ref" => (k_here; k_dflt (first
    | (refine' kda_in (knd := PySem.intKind _ _) ?Nr ?mr ?dr ?lr (intKind_is _ _ _ _) true ?br ?_; (case Nr => k_asm); (case mr => k_mem); (case dr => assumption); (case lr => assumption); (case br => exact Option.isSome_iff_exists.mpr ⟨_, by assumption⟩); k_whole)
    | (refine' kda_in (knd := PySem.intKind _ _) ?Nr ?mr ?dr ?lr (intKind_is _ _ _ _) false ?br ?_; (case Nr => k_asm); (case mr => k_mem); (case dr => assumption); (case lr => assumption); (case br => exact Option.isSome_eq_false_iff.mpr (Option.isNone_iff_eq_none.mpr (by assumption))); k_whole)))
  k_with "setItem ref int" => (k_here; k_dflt (refine' kda_set (knd := PySem.intKind _ _) ?Fr ?Nr ?Ur ?dr (intKind_is _ _ _ _) ?zr ?_; (case Fr => k_asm); (case Nr => k_asm); (case Ur => (first | exact updF_nd 0 (by assumption) rfl | exact updF_nd 1 (by assumption) rfl | exact updF_nd 2 (by assumption) rfl | exact updF_nd 3 (by assumption) rfl | exact updF_nd 4 (by assumption) rfl | exact updF_nd 5 (by assumption) rfl | k_updF)); (case dr => assumption); (case zr => assumption)); intro h'r o'r F'r N'r hd'r; (try dsimp only at N'r); (let n7r := newsOf N'r); (have N7r : News _ _ _ n7r := N'r))
  k_with "enter" => (refine' code_def ?k1r ?k2r ?k3r ?k4r ?k5r ?kAr ?kFr ?kKr ?k6r ?k7r ?k8r ?k9r ?kBr ?_ ?c2r ?c3r ?c4r ?c5r; (case kAr => exact rfl); (case kFr => exact rfl); (case kKr => first | exact rfl | assumption); (case k1r => k_asm); (case k2r => k_asm); (case k3r => k_asm); (case k4r => k_asm); (case k5r => k_asm); (case k6r => k_is); (case k7r => k_is); (case k8r => (first | exact room9 0 (by assumption) rfl | exact room9 1 (by assumption) rfl | exact room9 2 (by assumption) rfl | exact room9 3 (by assumption) rfl | exact room9 4 (by assumption) rfl | exact room9 5 (by assumption) rfl | exact room9 6 (by assumption) rfl | exact room9 7 (by assumption) rfl | exact room9 8 (by assumption) rfl | ktr_room)); (case k9r => first | exact BindsTo.of_eq rfl | exact binds_K (by k_in) rfl (by k_is) rfl rfl rfl); (case c5r => decide); (case kBr => exact locs rfl); (case c2r => exact rfl); (case c3r => exact rfl); (case c4r => exact rfl); k_whole; (refine (?_ : let m9 := _; ∀ g L h, Fr _ _ g _ → Fr _ _ h m9 → _)); intro m9r g'r L'r h'r FG'r F'r N'r B'r X'r T'r; (try dsimp only); (try k_fold); (refine (?_ : let e9 := _; let A9 := _; wpAny _ A9 (execs _ e9) _ _ _)); intro e9r A9r; (try ((with_reducible refine gen_tk ?_); intro tk9r)))
  k_with "call ref" => (k_here; k_dflt (refine' call_cls ?k1r ?k2r ?k3r ?k4r ?k5r ?k6r ?_; (case k1r => k_asm); (case k2r => k_asm); (case k3r => k_asm); (case k4r => k_is); (case k5r => k_is); (case k6r => k_is); k_whole; intro x'r d'r h'r F'r N'r l8r l7r; (let n7r := newsOf N'r); (have N7r : News _ _ _ n7r := N'r); (have hn9r := nd_new2 l8r l7r (by assumption)); (try k_sweep); ktr_enter))
  trivial
/-- two ways of a call, by place or by name, that bind the same -/
theorem bindsOr {s : Shared} {fd : FuncData} {b : List (Str × Value)} {pos p1 p2 : List Value} {kw k1 k2 : List (Str × Value)} (h : (pos = p1 ∧ kw = k1) ∨ (pos = p2 ∧ kw = k2)) (h1 : BindsTo s fd ⟨p1, k1⟩ b) (h2 : BindsTo s fd ⟨p2, k2⟩ b) : BindsTo s fd ⟨pos, kw⟩ b := by
  rcases h with ⟨rfl, rfl⟩ | ⟨rfl, rfl⟩
  · exact h1
  · exact h2
section
variable {w : World} {p : Program} {loose : List Str} {mean : ExcName → Option Value} {mg mb : Str → Option Value}
  {dp un : Nat} {gd : Option (List Code)} {cn : Str} {cs : Scope} {a : Addr} {ccd : Value} {cl : List (Str × Addr)} {outer : List Env} {A₀ : Around} {base h₀ : Heap} {L : Addr} {m : Str → Option Value} {s : Shared} {Q E : Value → Shared → Prop}
  (B : Below A₀ base outer h₀) (F : Fr h₀ L s.heap m) (X : (hd.heap_39 w.params).In h₀) (T : Top p loose mean mg mb h₀) (hk : cs.kind = .function) (hdp : dp + 7 < recursionLimit)
include B F X T hk hdp
variable {c : CFix} {st : CSt} {R : List (Addr × Obj)} {k v : Int} {tk0 tv0 : Tok} {fl : Bool}
theorem rules_LAddE : True := by
  k_with "enter" => (refine' code_def ?k1r ?k2r ?k3r ?k4r ?k5r ?kAr ?kFr ?kKr ?k6r ?k7r ?k8r ?k9r ?kBr ?_ ?c2r ?c3r ?c4r ?c5r; (case kAr => exact rfl); (case kFr => exact rfl); (case kKr => first | exact rfl | assumption); (case k1r => k_asm); (case k2r => k_asm); (case k3r => k_asm); (case k4r => k_asm); (case k5r => k_asm); (case k6r => k_is); (case k7r => k_is); (case k8r => (first | exact room9 0 (by assumption) rfl | exact room9 1 (by assumption) rfl | exact room9 2 (by assumption) rfl | exact room9 3 (by assumption) rfl | exact room9 4 (by assumption) rfl | exact room9 5 (by assumption) rfl | exact room9 6 (by assumption) rfl | exact room9 7 (by assumption) rfl | exact room9 8 (by assumption) rfl | ktr_room)); (case k9r => exact bindsOr hargs (by first | exact BindsTo.of_eq rfl | exact binds_K (by k_in) rfl (by k_is) rfl rfl rfl) (by first | exact BindsTo.of_eq rfl | exact binds_K (by k_in) rfl (by k_is) rfl rfl rfl)); (case c5r => decide); (case kBr => exact locs rfl); (case c2r => exact rfl); (case c3r => exact rfl); (case c4r => exact rfl); k_whole; (refine (?_ : let m9 := _; ∀ g L h, Fr _ _ g _ → Fr _ _ h m9 → _)); intro m9r g'r L'r h'r FG'r F'r N'r B'r X'r T'r; clear hargs; (try dsimp only); (try k_fold); (refine (?_ : let e9 := _; let A9 := _; wpAny _ A9 (execs _ e9) _ _ _)); intro e9r A9r; (try ((with_reducible refine gen_tk ?_); intro tk9r)))
  trivial
set_option maxRecDepth 100000 in
set_option maxHeartbeats 8000000 in
theorem add_new (N : News h₀ L s.heap (Led c st R)) (G : Good w c st R) (hG : GoneSpec w p loose mean mg mb c.ga c.ol c.S₀) (hs : 0 ≤ st.stay) (hz : (st.line.length : Int) ≤ st.size) (hk0 : k ∉ st.line.map Node.k) (hroom : st.os.length + st.line.length < 4096)
  (ret : ∀ (st' : CSt) (X : List (Addr × Obj)), absS st' = vadd k v fl (absS st) → Good w c st' (X ++ R) → Back h₀ L m s Q .none (Led c st' (X ++ R))) {cv : Value} (hcv : cv = if fl then .ref c.ga else .none) {pos : List Value} {kw : List (Str × Value)}
  (hargs : (pos = [.ref c.ca, .int k tk0, .int v tv0, cv] ∧ kw = []) ∨ (pos = [.ref c.ca, .int k tk0, .int v tv0] ∧ kw = [(Str.ofString "cleanup", cv)])) :
  wpAny (model PySem.Challenge.rw_iy0004_01.row.prog w) (ktrTop dp un gd cn cs L a ccd cl outer) (call (.ref 87) pos kw) Q E s := by
  revert X; k_fill; intro X
  let l9 := newsOf N
  have N9 : News _ _ _ l9 := N
  have hvn := valueAt_none G.hkv hk0
  have hlen := G.len
  have hoc := G.hoc
  have hdc := G.hdc
  have hca : (c.ca, instObj 175 c.cd) ∈ seg c.ga .none st.line .none ++ R := List.mem_append_right _ G.hca
  have hsz : st.kvs.length ≤ sizeLine := by rw [sizeLine_eq]; lia
  have hnd := G.hnd
  have hnd' : (c.ol :: c.cd :: c.dc :: Ads (seg c.ga .none st.line .none ++ R)).Nodup := by
    rw [show Ads (seg c.ga .none st.line .none ++ R) = st.line.map Node.d ++ Ads R by rw [← ads_seg (ga := c.ga) st.line .none .none]; exact List.map_append]
    exact hnd
  refine wpAny_call ?_
  k_dflt ktr_enter
  k_steps
  (rename News _ _ _ _ => N2); (rename Obj.IsDictOf _ _ (stored _ _ _) => ho2)
  subst hcv
  refine' ra_new2 ?g1 ?g2 ?g3 ?g4 rfl ?g6 ?g7 G ho2 hk0 ?g8 ?g9 hroom ?_
  case g1 => k_asm
  case g2 => k_asm
  case g3 => k_asm
  case g4 => k_asm
  case g6 => (first | exact room9 0 (by assumption) rfl | exact room9 1 (by assumption) rfl | exact room9 2 (by assumption) rfl | exact room9 3 (by assumption) rfl | exact room9 4 (by assumption) rfl | exact room9 5 (by assumption) rfl | exact room9 6 (by assumption) rfl | exact room9 7 (by assumption) rfl | exact room9 8 (by assumption) rfl | ktr_room)
  case g7 => assumption
  case g8 => assumption
  case g9 => assumption
  intro st1 e1 e1l G1 h9 tk9 F9 N9
  try dsimp only
  try k_fold
  have hlen1 := G1.len
  have hoc1 := G1.hoc
  have hca1 : (c.ca, instObj 175 c.cd) ∈ seg c.ga .none st1.line .none ++ ([(_, instObj 39 _)] ++ R) := List.mem_append_right _ G1.hca
  have hsz1 : st1.size = st.size := congrArg V.size e1
  have hst1 : st1.stay = st.stay := congrArg V.stay e1
  clear N2 ho2 hoc hca
  k_steps
  · refine' cl_ok ?g1 ?g2 ?g3 ?g4 rfl ?g6 ?g7 G1 hG (by lia) ?_
    case g1 => k_asm
    case g2 => k_asm
    case g3 => k_asm
    case g4 => k_asm
    case g6 => (first | exact room9 0 (by assumption) rfl | exact room9 1 (by assumption) rfl | exact room9 2 (by assumption) rfl | exact room9 3 (by assumption) rfl | exact room9 4 (by assumption) rfl | exact room9 5 (by assumption) rfl | exact room9 6 (by assumption) rfl | exact room9 7 (by assumption) rfl | exact room9 8 (by assumption) rfl | ktr_room)
    case g7 => assumption
    intro st2 X2 dd C2 hl2 G2 h9 tk9 F9 N9
    try dsimp only
    try k_fold
    k_steps
    have e2 := cut_view C2 hl2
    refine' ret st2 (X2 ++ [(_, instObj 39 _)]) ?ea (by rw [List.append_assoc]; exact G2) _ _ (by assumption) (by rw [List.append_assoc]; assumption)
    rw [e2, e1, hst1, vadd_new hk0, if_pos (by lia)]
  · refine' ret st1 _ ?eb G1 _ _ (by assumption) (by assumption)
    rw [e1, vadd_new hk0, if_neg (by lia)]
end
end
section
-- LAddO
open PySem PySem.W PySem.Calls PyProof.Rows
theorem rules_LAddO0 : True := by
  k_with_none
  k_with "ne" => (refine neN ?_; (try dsimp only); first | assumption | (apply Ne.symm; assumption))
  k_with "tone" => (refine neN ?_; (try dsimp only); first | assumption | (apply Ne.symm; assumption))
  k_with "mem" => (first | assumption | exact mem_at 0 rfl | exact mem_at 1 rfl | exact mem_at 2 rfl | exact mem_at 3 rfl | exact mem_at 4 rfl | exact mem_at 5 rfl | exact mem_dr 1 (by assumption) | exact mem_dr 2 (by assumption) | exact mem_dr 3 (by assumption) | exact mem_dr 4 (by assumption) | exact mem_dr 5 (by assumption))
  k_with "getAttr ref" => (k_here; k_dflt ((first | (with_reducible refine' gN_p ?F1r ?X1r ?N1r ?h1r ?h2r ?v1r ?_) | (with_reducible refine' gN_nx ?F1r ?X1r ?N1r ?h1r ?h2r ?v1r ?_) | (with_reducible refine' gN_k ?F1r ?X1r ?N1r ?h1r ?h2r ?v1r ?_) | (with_reducible refine' gN_v ?F1r ?X1r ?N1r ?h1r ?h2r ?v1r ?_) | (with_reducible refine' gN_c ?F1r ?X1r ?N1r ?h1r ?h2r ?v1r ?_) | (with_reducible refine' gC_c ?F1r ?X1r ?N1r ?h1r ?h2r ?v1r ?_) | (with_reducible refine' gC_r ?F1r ?X1r ?N1r ?h1r ?h2r ?v1r ?_) | (with_reducible refine' gC_l ?F1r ?X1r ?N1r ?h1r ?h2r ?v1r ?_) | (with_reducible refine' gC_z ?F1r ?X1r ?N1r ?h1r ?h2r ?v1r ?_) | (with_reducible refine' gC_y ?F1r ?X1r ?N1r ?h1r ?h2r ?v1r ?_)); (case F1r => k_asm); (case X1r => k_asm); (case N1r => k_asm); (case h1r => k_mem); (case h2r => k_mem); (case v1r => k_handed); k_whole))
  k_with "setAttr ref" => (k_here; k_dflt (first | ((first | (with_reducible refine' sN_p ?F1r ?X1r ?N1r ?h1r ?h2r ?U1r ?_) | (with_reducible refine' sN_nx ?F1r ?X1r ?N1r ?h1r ?h2r ?U1r ?_) | (with_reducible refine' sN_v ?F1r ?X1r ?N1r ?h1r ?h2r ?U1r ?_) | (with_reducible refine' sN_c ?F1r ?X1r ?N1r ?h1r ?h2r ?U1r ?_) | (with_reducible refine' sC_r ?F1r ?X1r ?N1r ?h1r ?h2r ?U1r ?_) | (with_reducible refine' sC_l ?F1r ?X1r ?N1r ?h1r ?h2r ?U1r ?_) | (with_reducible refine' sC_z ?F1r ?X1r ?N1r ?h1r ?h2r ?U1r ?_) | (with_reducible refine' sC_y ?F1r ?X1r ?N1r ?h1r ?h2r ?U1r ?_)); (case F1r => k_asm); (case X1r => k_asm); (case N1r => k_asm); (case h1r => k_mem); (case h2r => k_mem); (case U1r => (first | exact upd_nd 0 (by assumption) rfl | exact upd_nd 1 (by assumption) rfl | exact upd_nd 2 (by assumption) rfl | exact upd_nd 3 (by assumption) rfl | exact upd_nd 4 (by assumption) rfl | exact upd_nd 5 (by assumption) rfl | k_upd)); k_whole) | (refine' set_dict ?k1r ?k2r ?k3r ?k4r ?k5r ?k6r ?k7r ?k8r ?k9r ?k10r ?k11r ?k12r ?k13r ?_; (case k1r => k_asm); (case k2r => k_asm); (case k3r => k_asm); (case k4r => k_inst); (case k5r => exact rfl); (case k6r => k_is); (case k7r => k_is); (case k8r => k_is); (case k9r => k_is); (case k10r => k_get); (case k11r => k_put); (case k12r => (first | exact upd_nd 0 (by assumption) rfl | exact upd_nd 1 (by assumption) rfl | exact upd_nd 2 (by assumption) rfl | exact upd_nd 3 (by assumption) rfl | exact upd_nd 4 (by assumption) rfl | exact upd_nd 5 (by assumption) rfl | k_upd)); (case k13r => exact Nat.le_of_ble_eq_true rfl); k_whole)); (refine (?_ : let l9 := _; ∀ h', Fr _ _ h' _ → News _ _ h' l9 → _)); intro l9r h'r F'r N'r; (try k_sweep))
  k_with "truthy ref" => (k_here; k_dflt ((refine' tN ?F1r ?X1r ?N1r ?h1r ?h2r ?_); (case F1r => k_asm); (case X1r => k_asm); (case N1r => k_asm); (case h1r => k_mem); (case h2r => k_mem); k_whole))
  k_with "storeName" => (k_here; k_dflt (refine' storeX_L ?F1r ?N1r ?_ ?a1r ?b1r; (case F1r => k_asm); (case N1r => k_asm); (case a1r => rfl); (case b1r => rfl); k_whole); (refine (?_ : let m9 := _; ∀ h', Fr _ _ h' m9 → News _ _ h' _ → _)); intro m9r h'r F'r N'r; (try k_sweep))
  k_with "subscriptTail" => (k_here; (with_reducible show wpAny _ _ (subscriptTail _ _ (Value.ref _) (Value.int _ _)) _ _ _); k_dflt (refine' kda_item (knd := PySem.intKind _ _) ?Nr ?mr ?dr (intKind_is _ _ _ _) ?vr ?_; (case Nr => k_asm); (case mr => k_mem); (case dr => assumption); (case vr => assumption)))
  k_with "call builtin:len" => (k_here; (with_reducible show wpAny _ _ (call (Value.builtin "len") [Value.ref _]) _ _ _); k_dflt (refine' kda_len (knd := PySem.intKind _ _) ?Nr ?mr ?dr ?lr ?zr ?_; (case Nr => k_asm); (case mr => k_mem); (case dr => assumption); (case lr => assumption); (case zr => first | assumption | lia); k_whole))
  k_with "compareOp In int ref" => (k_here; k_dflt (first
    | (refine' kda_in (knd := PySem.intKind _ _) ?Nr ?mr ?dr ?lr (intKind_is _ _ _ _) true ?br ?_; (case Nr => k_asm); (case mr => k_mem); (case dr => assumption); (case lr => assumption); (case br => exact Option.isSome_iff_exists.mpr ⟨_, by assumption⟩); k_whole)
    | (refine' kda_in (knd := PySem.intKind _ _) ?Nr ?mr ?dr ?lr (intKind_is _ _ _ _) false ?br ?_; (case Nr => k_asm); (case mr => k_mem); (case dr => assumption); (case lr => assumption); (case br => exact Option.isSome_eq_false_iff.mpr (Option.isNone_iff_eq_none.mpr (by assumption))); k_whole)))
  k_with "setItem ref int" => (k_here; k_dflt (refine' kda_set (knd := PySem.intKind _ _) ?Fr ?Nr ?Ur ?dr (intKind_is _ _ _ _) ?zr ?_; (case Fr => k_asm); (case Nr => k_asm); (case Ur => (first | exact updF_nd 0 (by assumption) rfl | exact updF_nd 1 (by assumption) rfl | exact updF_nd 2 (by assumption) rfl | exact updF_nd 3 (by assumption) rfl | exact updF_nd 4 (by assumption) rfl | exact updF_nd 5 (by assumption) rfl | k_updF)); (case dr => assumption); (case zr => assumption)); intro h'r o'r F'r N'r hd'r; (try dsimp only at N'r); (let n7r := newsOf N'r); (have N7r : News _ _ _ n7r := N'r))
  k_with "enter" => (refine' code_def ?k1r ?k2r ?k3r ?k4r ?k5r ?kAr ?kFr ?kKr ?k6r ?k7r ?k8r ?k9r ?kBr ?_ ?c2r ?c3r ?c4r ?c5r; (case kAr => exact rfl); (case kFr => exact rfl); (case kKr => first | exact rfl | assumption); (case k1r => k_asm); (case k2r => k_asm); (case k3r => k_asm); (case k4r => k_asm); (case k5r => k_asm); (case k6r => k_is); (case k7r => k_is); (case k8r => (first | exact room9 0 (by assumption) rfl | exact room9 1 (by assumption) rfl | exact room9 2 (by assumption) rfl | exact room9 3 (by assumption) rfl | exact room9 4 (by assumption) rfl | exact room9 5 (by assumption) rfl | exact room9 6 (by assumption) rfl | exact room9 7 (by assumption) rfl | exact room9 8 (by assumption) rfl | ktr_room)); (case k9r => first | exact BindsTo.of_eq rfl | exact binds_K (by k_in) rfl (by k_is) rfl rfl rfl); (case c5r => decide); (case kBr => exact locs rfl); (case c2r => exact rfl); (case c3r => exact rfl); (case c4r => exact rfl); k_whole; (refine (?_ : let m9 := _; ∀ g L h, Fr _ _ g _ → Fr _ _ h m9 → _)); intro m9r g'r L'r h'r FG'r F'r N'r B'r X'r T'r; (try dsimp only); (try k_fold); (refine (?_ : let e9 := _; let A9 := _; wpAny _ A9 (execs _ e9) _ _ _)); intro e9r A9r; (try ((with_reducible refine gen_tk ?_); intro tk9r)))
  k_with "call ref" => (k_here; k_dflt (refine' call_cls ?k1r ?k2r ?k3r ?k4r ?k5r ?k6r ?_; (case k1r => k_asm); (case k2r => k_asm); (case k3r => k_asm); (case k4r => k_is); (case k5r => k_is); (case k6r => k_is); k_whole; intro x'r d'r h'r F'r N'r l8r l7r; (let n7r := newsOf N'r); (have N7r : News _ _ _ n7r := N'r); (have hn9r := nd_new2 l8r l7r (by assumption)); (try k_sweep); ktr_enter))
  trivial
section
variable {α : Type} {c n o d : α} {P Q R X : List α}
theorem mO1 : ∀ z, z ∈ n :: c :: d :: o :: R → z ∈ n :: o :: c :: d :: R := by
  intro z hz; simp only [List.mem_cons] at *; grind
theorem mO2 {S : List α} (e : S = X ++ o :: (P ++ (Q ++ R))) : ∀ z, z ∈ n :: o :: c :: d :: (P ++ (Q ++ (X ++ R))) → z ∈ n :: c :: d :: S := by
  subst e; intro z hz; simp only [List.mem_cons, List.mem_append] at *; grind
end
section
variable {w : World} {p : Program} {loose : List Str} {mean : ExcName → Option Value} {mg mb : Str → Option Value}
  {dp un : Nat} {gd : Option (List Code)} {cn : Str} {cs : Scope} {a : Addr} {ccd : Value} {cl : List (Str × Addr)} {outer : List Env} {A₀ : Around} {base h₀ : Heap} {L : Addr} {m : Str → Option Value} {s : Shared} {Q E : Value → Shared → Prop}
  (B : Below A₀ base outer h₀) (F : Fr h₀ L s.heap m) (X : (hd.heap_39 w.params).In h₀) (T : Top p loose mean mg mb h₀) (hk : cs.kind = .function) (hdp : dp + 7 < recursionLimit)
include B F X T hk hdp
theorem rules_LAddO1 : True := by
  k_with "subscriptTail" => (k_here; (with_reducible show wpAny _ _ (subscriptTail _ _ (Value.ref _) (Value.int _ _)) _ _ _); k_dflt (refine' kda_item (knd := PySem.intKind _ _) ?Nr ?mr ?dr (intKind_is _ _ _ _) ?vr ?_; (case Nr => k_asm); (case mr => k_mem); (case dr => assumption); (case vr => assumption)))
  k_with "getItem ref int" => (k_here; k_dflt (refine' gi_sym ?Nr ?mr ?dr ?vr ?_; (case Nr => k_asm); (case mr => k_mem); (case dr => assumption); (case vr => assumption); k_whole))
  trivial
variable {c : CFix} {st : CSt} {R : List (Addr × Obj)} {v : Int} {tk0 tv0 : Tok} {fl : Bool}
theorem rules_LAddOE : True := by
  k_with "call ref" => (k_here; (with_reducible show wpAny _ _ (call (Value.ref 36) _ _) _ _ _); (rename CleanSpec _ _ _ _ _ _ _ _ _ _ _ _ _ _ _ _ _ _ _ => hC9r); k_dflt (refine' hC9r _ _ _ _ _ _ _ _ _ _ _ _ _ _ _ _ _ _ _ [_, _] ?g1r ?g2r ?g3r ?g4r ?g5r ?g6r ?g7r ?g8r ?_; (case g1r => k_asm); (case g2r => k_asm); (case g3r => k_asm); (case g4r => k_asm); (case g5r => k_asm); (case g6r => rfl); (case g7r => (first | exact room9 0 (by assumption) rfl | exact room9 1 (by assumption) rfl | exact room9 2 (by assumption) rfl | exact room9 3 (by assumption) rfl | exact room9 4 (by assumption) rfl | exact room9 5 (by assumption) rfl | exact room9 6 (by assumption) rfl | exact room9 7 (by assumption) rfl | exact room9 8 (by assumption) rfl | ktr_room)); (case g8r => exact hn9)); intro S9r h9r tk9r c9r F9r N9r; k_dflt (replace N9r : News _ _ _ ((n.d, _) :: (c.cd, _) :: (c.dc, _) :: S9r) := N9r); k_dflt (have o9r : (n.d :: c.cd :: c.dc :: Ads S9r).Nodup := Cleaned.nodup c9r hn9); (let n7r := newsOf N9r); (have N7r : News _ _ _ n7r := N9r); (have ih1r := Cleaned.inst c9r hca); (have ih2r := Cleaned.inst c9r hna); (try dsimp only); (try k_fold))
  k_with "enter" => (refine' code_def ?k1r ?k2r ?k3r ?k4r ?k5r ?kAr ?kFr ?kKr ?k6r ?k7r ?k8r ?k9r ?kBr ?_ ?c2r ?c3r ?c4r ?c5r; (case kAr => exact rfl); (case kFr => exact rfl); (case kKr => first | exact rfl | assumption); (case k1r => k_asm); (case k2r => k_asm); (case k3r => k_asm); (case k4r => k_asm); (case k5r => k_asm); (case k6r => k_is); (case k7r => k_is); (case k8r => (first | exact room9 0 (by assumption) rfl | exact room9 1 (by assumption) rfl | exact room9 2 (by assumption) rfl | exact room9 3 (by assumption) rfl | exact room9 4 (by assumption) rfl | exact room9 5 (by assumption) rfl | exact room9 6 (by assumption) rfl | exact room9 7 (by assumption) rfl | exact room9 8 (by assumption) rfl | ktr_room)); (case k9r => exact bindsOr hargs (by first | exact BindsTo.of_eq rfl | exact binds_K (by k_in) rfl (by k_is) rfl rfl rfl) (by first | exact BindsTo.of_eq rfl | exact binds_K (by k_in) rfl (by k_is) rfl rfl rfl)); (case c5r => decide); (case kBr => exact locs rfl); (case c2r => exact rfl); (case c3r => exact rfl); (case c4r => exact rfl); k_whole; (refine (?_ : let m9 := _; ∀ g L h, Fr _ _ g _ → Fr _ _ h m9 → _)); intro m9r g'r L'r h'r FG'r F'r N'r B'r X'r T'r; clear hargs; (try dsimp only); (try k_fold); (refine (?_ : let e9 := _; let A9 := _; wpAny _ A9 (execs _ e9) _ _ _)); intro e9r A9r; (try ((with_reducible refine gen_tk ?_); intro tk9r)))
  trivial
set_option maxRecDepth 100000 in
set_option maxHeartbeats 8000000 in
theorem add_old {pre post : List Node} {n : Node} (N : News h₀ L s.heap (Led c st R)) (G : Good w c st R) (hG : GoneSpec w p loose mean mg mb c.ga c.ol c.S₀) (hl : st.line = pre ++ n :: post) (hz : (st.line.length : Int) ≤ st.size) (hroom : st.os.length + st.line.length < 4096)
  (ret : ∀ (st' : CSt) (X : List (Addr × Obj)), absS st' = vadd n.k v fl (absS st) → Good w c st' (X ++ R) → Back h₀ L m s Q .none (Led c st' (X ++ R))) {cv : Value} (hcv : cv = if fl then .ref c.ga else .none) {pos : List Value} {kw : List (Str × Value)}
  (hargs : (pos = [.ref c.ca, .int n.k tk0, .int v tv0, cv] ∧ kw = []) ∨ (pos = [.ref c.ca, .int n.k tk0, .int v tv0] ∧ kw = [(Str.ofString "cleanup", cv)])) :
  wpAny (model PySem.Challenge.rw_iy0004_01.row.prog w) (ktrTop dp un gd cn cs L a ccd cl outer) (call (.ref 87) pos kw) Q E s := by
  revert X; k_fill; intro X
  have hn : n ∈ st.line := by rw [hl]; exact List.mem_append_right _ (.head _)
  have hv := G.val hn
  have hlen := G.len
  have hoc := G.hoc
  have hdc := G.hdc
  have hca : (c.ca, instObj 175 c.cd) ∈ seg c.ga .none pre n.K ++ (seg c.ga (.ref n.a) post .none ++ R) := List.mem_append_right _ (List.mem_append_right _ G.hca)
  have hna : (n.a, instObj 39 n.d) ∈ seg c.ga .none pre n.K ++ (seg c.ga (.ref n.a) post .none ++ R) := List.mem_append_right _ (List.mem_append_right _ (G.hin n hn))
  have hnd := G.hnd
  rw [hl] at hnd
  have eA : Ads (seg c.ga .none pre n.K ++ (seg c.ga (.ref n.a) post .none ++ R)) = pre.map Node.d ++ (post.map Node.d ++ Ads R) := by
    rw [← ads_seg (ga := c.ga) pre n.K .none, ← ads_seg (ga := c.ga) post .none (.ref n.a)]; simp only [Ads, List.map_append]
  have hn9 : (n.d :: c.cd :: c.dc :: c.ol :: Ads (seg c.ga .none pre n.K ++ (seg c.ga (.ref n.a) post .none ++ R))).Nodup := by
    rw [eA]
    exact nodup_perm hnd fun y => by
      simp only [List.map_append, List.cons_append, List.nil_append, List.map_cons, List.map_nil, List.count_cons, List.count_append, List.count_nil]; lia
  obtain ⟨goc, god, gfd, gsl, hga⟩ := G.hga
  have hC : CleanSpec w p loose mean mg mb n.a n.d n.x n.f c.ga n.k n.v n.kt n.vt c.ol (refsOf st.os) st.nn (seg c.ga .none pre n.K ++ (seg c.ga (.ref n.a) post .none ++ R)) :=
    rc_any hG hna (List.mem_append_right _ (List.mem_append_right _ (G.hS _ hga))) (fun x hx => List.mem_append_right _ (List.mem_append_right _ (G.hS x hx))) (by rw [refsOf, List.length_map]; exact Nat.le_trans (Nat.le_add_right _ _) (Nat.le_of_lt hroom))
  have N1 := kst_newsOf (kst_newsOf N (led_split hl)) mO1
  clear N
  let l9 := newsOf N1
  have N9 : News _ _ _ l9 := N1
  clear hga hnd
  refine wpAny_call ?_
  k_dflt ktr_enter
  k_steps
  subst hcv
  (rename News _ _ _ _ => N2); (rename Cleaned _ _ _ _ _ _ _ _ _ _ _ => c2)
  obtain ⟨X, os', nn', hS', hab, hle, hos, hx⟩ := c2.fin (st := st) (R := R) G.hos
  refine' ra_old2 (st := { st with line := pre ++ ({ n with v := v, vt := tv0, f := fl } : Node) :: post, os := os', nn := nn' }) (n := ({ n with v := v, vt := tv0, f := fl } : Node)) (pre := pre) (post := post) (R := X ++ R) ?h1 ?h2 ?h3 ?h4 rfl ?h6 rfl (Good.mod (n' := ({ n with v := v, vt := tv0, f := fl } : Node)) G hl rfl rfl rfl hos ?hz (by lia)) ?h7 ?_
  case h1 => k_asm
  case h2 => k_asm
  case h3 => k_asm
  case h4 => k_asm
  case h6 => (first | exact room9 0 (by assumption) rfl | exact room9 1 (by assumption) rfl | exact room9 2 (by assumption) rfl | exact room9 3 (by assumption) rfl | exact room9 4 (by assumption) rfl | exact room9 5 (by assumption) rfl | exact room9 6 (by assumption) rfl | exact room9 7 (by assumption) rfl | exact room9 8 (by assumption) rfl | ktr_room)
  case hz =>
    refine nodup_perm (hx _ G.hnd fun b hb => ?_) fun y => ?_
    · rw [eA]
      rw [hl] at hb
      simp only [List.map_append, List.map_cons, List.map_nil, List.cons_append, List.nil_append, List.mem_cons, List.mem_append] at hb ⊢
      grind
    · simp only [Ads, List.map_append, List.cons_append, List.nil_append, List.map_cons, List.map_nil, List.count_cons, List.count_append, List.count_nil]; lia
  case h7 => exact kst_newsOf N2 (mO2 hS')
  intro st1 e1 e1l G1 h9 tk9 F9 N3
  let l8 := newsOf N3
  have N8 : News _ _ _ l8 := N3
  try dsimp only
  try k_fold
  have hlen1 := G1.len
  have hoc1 := G1.hoc
  have hca1 : (c.ca, instObj 175 c.cd) ∈ seg c.ga .none st1.line .none ++ (X ++ R) := List.mem_append_right _ G1.hca
  have hsz1 : st1.size = st.size := congrArg V.size e1
  have hll : (pre ++ ({ n with v := v, vt := tv0, f := fl } : Node) :: post).length = st.line.length := by rw [hl]; simp
  have e1l' : st1.line.length = st.line.length := e1l.trans hll
  clear hoc hca
  k_steps
  refine' ret st1 _ ?k1 G1 _ _ (by assumption) (by assumption)
  have hspl := vfind_split pre post n (hl ▸ G.hkeys)
  rw [e1, show vadd n.k v fl (absS st) = ⟨(n.k, v, fl) :: absL (pre ++ post), absO st.os ++ goneOf (n.k, n.v, n.f), st.size, st.stay⟩ by
    unfold vadd
    rw [show (absS st).l = absL (pre ++ n :: post) by rw [← hl], hspl.1, hspl.2], hab]
  simp [goneAll, absL]
end
end
section
-- LDrop
open PySem PySem.W PySem.Calls PyProof.Rows
theorem rules_LDrop0 : True := by
  k_with_none
  k_with "ne" => (refine neN ?_; (try dsimp only); first | assumption | (apply Ne.symm; assumption))
  k_with "tone" => (refine neN ?_; (try dsimp only); first | assumption | (apply Ne.symm; assumption))
  k_with "mem" => assumption
  k_with "subscriptTail" => (k_here; (with_reducible show wpAny _ _ (subscriptTail _ _ (Value.ref _) (Value.int _ _)) _ _ _); k_dflt (refine' kda_item (knd := PySem.intKind _ _) ?Nr ?mr ?dr (intKind_is _ _ _ _) ?vr ?_; (case Nr => k_asm); (case mr => k_mem); (case dr => assumption); (case vr => assumption)))
  k_with "getItem ref int" => (k_here; k_dflt (refine' gi_sym ?Nr ?mr ?dr ?vr ?_; (case Nr => k_asm); (case mr => k_mem); (case dr => assumption); (case vr => assumption); k_whole))
  k_with "call builtin:len" => (k_here; (with_reducible show wpAny _ _ (call (Value.builtin "len") [Value.ref _]) _ _ _); k_dflt (refine' kda_len (knd := PySem.intKind _ _) ?Nr ?mr ?dr ?lr ?zr ?_; (case Nr => k_asm); (case mr => k_mem); (case dr => assumption); (case lr => assumption); (case zr => first | assumption | lia); k_whole))
  k_with "compareOp In int ref" => (k_here; k_dflt (first
    | (refine' kda_in (knd := PySem.intKind _ _) ?Nr ?mr ?dr ?lr (intKind_is _ _ _ _) true ?br ?_; (case Nr => k_asm); (case mr => k_mem); (case dr => assumption); (case lr => assumption); (case br => exact Option.isSome_iff_exists.mpr ⟨_, by assumption⟩); k_whole)
    | (refine' kda_in (knd := PySem.intKind _ _) ?Nr ?mr ?dr ?lr (intKind_is _ _ _ _) false ?br ?_; (case Nr => k_asm); (case mr => k_mem); (case dr => assumption); (case lr => assumption); (case br => exact Option.isSome_eq_false_iff.mpr (Option.isNone_iff_eq_none.mpr (by assumption))); k_whole)))
  k_with "setItem ref int" => (k_here; k_dflt (refine' kda_set (knd := PySem.intKind _ _) ?Fr ?Nr ?Ur ?dr (intKind_is _ _ _ _) ?zr ?_; (case Fr => k_asm); (case Nr => k_asm); (case Ur => k_updF); (case dr => assumption); (case zr => assumption)); intro h'r o'r F'r N'r hd'r; (try dsimp only at N'r))
  k_with "getMethod ref" => (k_here; (with_reducible show wpAny _ _ (getMethod (Value.ref _) (Str.ofString "pop") _) _ _ _); k_dflt (refine' kob_method (knd := PySem.intKind _ _) PySem.F.slot_dict_pop PySem.F.type_dict_pop ?Nr ?mr ?dr ?_; (case Nr => k_asm); (case mr => k_mem); (case dr => assumption)))
  k_with "getMethod ref" => (k_here; (with_reducible show wpAny _ _ (getMethod (Value.ref _) (Str.ofString "get") _) _ _ _); k_dflt (refine' kdg_method (knd := PySem.intKind _ _) ?Nr ?mr ?dr ?_; (case Nr => k_asm); (case mr => k_mem); (case dr => assumption)))
  k_with "call builtin:dict.pop" => (k_here; (with_reducible show wpAny _ _ (call (Value.builtin "dict.pop") [Value.ref _, Value.int _ _]) _ _ _); k_dflt (refine' kob_pop (knd := PySem.intKind _ _) (more := []) ?Fr ?Nr ?Ur ?dr (intKind_is _ _ _ _) (.inl rfl) (by rfl) (PySem.F.args_dict_pop_2 _ _) ?lr ?zr ?_; (case Fr => k_asm); (case Nr => k_asm); (case Ur => k_updF); (case dr => assumption); (case lr => assumption); (case zr => assumption)); intro h'r o'r F'r N'r hd'r; (try dsimp only at N'r))
  k_with "call builtin:dict.get" => (k_here; (with_reducible show wpAny _ _ (call (Value.builtin "dict.get") [Value.ref _, Value.int _ _, _]) _ _ _); k_dflt (refine' kdg_get2 (knd := PySem.intKind _ _) ?Nr ?mr ?dr ?lr (intKind_is _ _ _ _) _ ?vr ?_; (case Nr => k_asm); (case mr => k_mem); (case dr => assumption); (case lr => assumption); (case vr => assumption)); (try dsimp only [Option.getD]))
  k_with "enter" => (refine' code_def ?k1r ?k2r ?k3r ?k4r ?k5r ?kAr ?kFr ?kKr ?k6r ?k7r ?k8r ?k9r ?kBr ?_ ?c2r ?c3r ?c4r ?c5r; (case kAr => exact rfl); (case kFr => exact rfl); (case kKr => first | exact rfl | assumption); (case k1r => k_asm); (case k2r => k_asm); (case k3r => k_asm); (case k4r => k_asm); (case k5r => k_asm); (case k6r => k_is); (case k7r => k_is); (case k8r => ktr_room); (case k9r => first | exact BindsTo.of_eq rfl | exact binds_K (by k_in) rfl (by k_is) rfl rfl rfl); (case c5r => decide); (case kBr => exact locs rfl); (case c2r => exact rfl); (case c3r => exact rfl); (case c4r => exact rfl); k_whole; intro g'r L'r h'r FG'r F'r N'r B'r X'r T'r; (try dsimp only); (try k_fold))
  k_with "eval Name" => (k_here; k_dflt (refine' nameX_F ?Nr ?cr ?mr ?dr ?_ ?ar ?br ?er ?fr; (case ar => rfl); (case br => rfl); (case er => decide); (case fr => decide); (case Nr => k_asm); (case cr => rfl); (case mr => k_mem); (case dr => assumption); k_whole))
  k_with "call builtin:list.pop" => (k_here; (with_reducible show wpAny _ _ (call (Value.builtin _) [Value.ref _]) _ _ _); k_dflt (refine' kl_pop ?Fr ?Nr (kpa_last _ _) ?Ur ?zr ?_; (case Fr => k_asm); (case Nr => k_asm); (case Ur => k_upd); (case zr => assumption)); intro h'r F'r N'r; (try dsimp only at N'r))
  k_with "call builtin:len" => (k_here; (with_reducible show wpAny _ _ (call (Value.builtin "len") [Value.ref _]) _ _ _); k_dflt (refine' kst_len ?k1r ?k2r ?k3r ?k4r ?_; (case k1r => k_asm); (case k2r => k_mem); (case k3r => assumption); (case k4r => lia)); k_whole)
  trivial
noncomputable abbrev DropSpec (w : World) (p : Program) (loose : List Str) (mean : ExcName → Option Value) (mg mb : Str → Option Value) (fa : Addr) (c : LFix) (S₀ : List (Addr × Obj)) : Prop :=
  ∀ (dp un : Nat) (gd : Option (List Code)) (cn : Str) (cs : Scope) (a : Addr) (ccd : Value) (cl : List (Str × Addr)) (outer : List Env) (A₀ : Around) (base h₀ : Heap) (L : Addr) (m : Str → Option Value) (s : Shared) (Q E : Value → Shared → Prop)
    (st : LSt) (many : Int) (tk : Tok) (R K : List (Addr × Obj)),
    Below A₀ base outer h₀ → Fr h₀ L s.heap m → (hd.heap_39 w.params).In h₀ → News h₀ L s.heap (LLed c st R) → Top p loose mean mg mb h₀ → cs.kind = .function → dp + 1 < recursionLimit →
    (∀ x ∈ S₀, x ∈ R) → (∀ x ∈ K, x ∈ R) → (Ads (LLed c st R)).Nodup → LGood w c st K → 0 ≤ many →
    (∀ (st' : LSt) (X : List (Addr × Obj)), absE st'.ents = (absE st.ents).take many.toNat → absO st'.dues = absO st.dues ++ goneAll ((absE st.ents).drop many.toNat) → LGood w c st' (X ++ K) → (Ads (LLed c st' (X ++ R))).Nodup → Back h₀ L m s Q .none (LLed c st' (X ++ R))) →
    wpAny (model PySem.Challenge.rw_iy0004_01.row.prog w) (ktrTop dp un gd cn cs L a ccd cl outer) (call (.ref fa) [.int many tk]) Q E s
/-- the law's books after some of the last entries have gone -/
structure LCut (st st' : LSt) (d : List LEnt) : Prop where
  hents : st.ents = st'.ents ++ d
  hdues : absO st'.dues = absO st.dues ++ goneAll (absE d)
theorem goneAllE_append (d d' : List LEnt) : goneAll (absE (d' ++ d)) = goneAll (absE d) ++ goneAll (absE d') := by simp [goneAll, absE]
theorem LCut.refl (st : LSt) : LCut st st [] := ⟨by simp, by simp [goneAll, absE]⟩
theorem LCut.trans {a b c : LSt} {d d' : List LEnt} (x : LCut a b d) (y : LCut b c d') : LCut a c (d' ++ d) :=
  ⟨by rw [x.hents, y.hents, List.append_assoc], by rw [y.hdues, x.hdues, goneAllE_append, List.append_assoc]⟩
theorem lcut_view {st st' : LSt} {d : List LEnt} (C : LCut st st' d) {m : Nat} (hm : st'.ents.length = min st.ents.length m) : absE st'.ents = (absE st.ents).take m ∧ absO st'.dues = absO st.dues ++ goneAll ((absE st.ents).drop m) := by
  have h1 := C.hents
  have hl : st.ents.length = st'.ents.length + d.length := by rw [h1, List.length_append]
  rw [C.hdues, h1]
  simp only [absE, List.map_append]
  by_cases h : st'.ents.length = m
  · rw [← h, List.take_left' (by simp), List.drop_left' (by simp)]
    exact ⟨rfl, rfl⟩
  · have : d = [] := by
      have : d.length = 0 := by lia
      exact List.length_eq_zero_iff.mp this
    subst this
    simp only [List.map_nil, List.append_nil]
    rw [List.take_of_length_le (by simp; lia), List.drop_eq_nil_of_le (by simp; lia)]
    exact ⟨rfl, rfl⟩
theorem key_map (m0 : Str → Option Value) (v : Value) (h : m0 (Str.ofString "many") = some v) : m0 = fun y => if y = Str.ofString "key" then m0 (Str.ofString "key") else if y = Str.ofString "many" then some v else m0 y := by
  funext y
  by_cases h1 : y = Str.ofString "key"
  · rw [if_pos h1, h1]
  · rw [if_neg h1]
    by_cases h2 : y = Str.ofString "many"
    · rw [if_pos h2, h2, h]
    · rw [if_neg h2]
theorem key_map2 (m0 : Str → Option Value) (u : Option Value) (x v : Value) : (fun y => if y = Str.ofString "key" then some x else if y = Str.ofString "key" then u else if y = Str.ofString "many" then some v else m0 y) =
    fun y => if y = Str.ofString "key" then some x else if y = Str.ofString "many" then some v else m0 y := by
  funext y
  by_cases h1 : y = Str.ofString "key"
  · rw [if_pos h1, if_pos h1]
  · rw [if_neg h1, if_neg h1, if_neg h1]
theorem LGood.rem {w : World} {c : LFix} {st : LSt} {K Y : List (Addr × Obj)} (G : LGood w c st K) {l : List LEnt} {e : LEnt} (hl : st.ents = l ++ [e]) {o' : Obj} (ho : o'.IsDictOf (intKind PySem.Challenge.rw_iy0004_01.row.prog w) (without st.hkvs e.k)) {dues' : List Tup} {ln' dn' : Nat}
    (hdue : ∀ u ∈ dues', (u.t, u.obj) ∈ Y ++ K) (hr : dues'.length ≤ st.dues.length + 1) : LGood w c ⟨l, o', without st.hkvs e.k, dues', ln', dn'⟩ (Y ++ K) := by
  have hk := G.hkeys
  have hkv := G.hkv
  have hroom := G.hroom
  have htup := G.htup
  rw [hl] at hk hkv hroom htup
  refine ⟨ho, lwithout_perm hkv hk, ?_, fun x hx => List.mem_append_right _ (htup x (List.mem_append_left _ hx)), hdue, G.hha, ?_⟩
  · rw [List.map_append, List.nodup_append] at hk
    exact hk.1
  · simp only [List.length_append, List.length_cons, List.length_nil] at hroom ⊢
    lia
theorem ex_news {g h : Heap} {L t : Addr} {o : Obj} {rest : Addr → List (Addr × Obj)} {P : Addr → Prop} (N : News g L h ((t, o) :: rest t)) (l : P t) : ∃ t, News g L h ((t, o) :: rest t) ∧ P t := ⟨t, N, l⟩
theorem mD1 {α : Type} {t l d h : α} {R : List α} : ∀ z, z ∈ l :: d :: h :: (t :: R) → z ∈ t :: l :: d :: h :: R := by
  intro z hz; simp only [List.mem_cons] at *; grind
set_option maxRecDepth 100000 in
set_option maxHeartbeats 1000000 in
theorem drop_ok {w : World} {p : Program} {loose : List Str} {mean : ExcName → Option Value} {mg mb : Str → Option Value} {fa lA dA hA c' : Addr} {c : LFix} {q : Str} {doc pm ctv : Value} {ocode cl1 cl2 cl3 : Obj} {vs : Array Value} {t0 : Tok}
    (h1 : cl1.data = .cell (some (.ref c.la))) (h4 : cl2.data = .cell (some (.ref c.ha))) (h5 : cl3.data = .cell (some (.ref c.da))) (h2 : ocode.data = .fields vs) (h3 : vs[1]? = some (.str q t0)) :
    DropSpec w p loose mean mg mb fa c [(fa, fn3 "drop" q 5 [(Str.ofString "line", lA), (Str.ofString "held", hA), (Str.ofString "due", dA)] doc pm c' ctv), (c', ocode), (lA, cl1), (hA, cl2), (dA, cl3)] := by
  intro dp un gd cn cs a ccd cl outer A₀ base h₀ L m s Q E st many tk0 R K B F X N T hk hdp hS hK hn G hmany ret
  revert X; k_fill; intro X
  have m1 := hS _ (List.Mem.head _)
  have m2 := hS _ (List.Mem.tail _ (List.Mem.head _))
  have m3 := hS _ (List.Mem.tail _ (List.Mem.tail _ (List.Mem.head _)))
  have m4 := hS _ (List.Mem.tail _ (List.Mem.tail _ (List.Mem.tail _ (List.Mem.head _))))
  have m5 := hS _ (List.Mem.tail _ (List.Mem.tail _ (List.Mem.tail _ (List.Mem.tail _ (List.Mem.head _)))))
  have eb : fnBody 5 = _ :: _ := rfl
  have es : fnScope 5 = Scope.mk _ _ _ _ _ := rfl
  have ea : fnArgs 5 = Arguments.mk _ _ _ _ _ _ _ := rfl
  unfold fn3 at m1
  rw [eb, es, ea] at m1
  clear eb es ea
  refine wpAny_call ?_
  refine' code_nest ?k1 ?k2 ?k3 ?k4 ?k5 ?kA ?kF ?kK ?k6 ?k7 ?k8 ?k9 ?kB ?_ ?c2 ?c3 ?c4 ?c5
  case kA => exact rfl
  case kF => exact rfl
  case kK => assumption
  case k1 => k_asm
  case k2 => k_asm
  case k3 => k_asm
  case k4 => k_asm
  case k5 => k_asm
  case k6 => exact .tail _ (.tail _ (.tail _ m1))
  case k7 => exact codeRec_news (by k_asm) (.tail _ (.tail _ (.tail _ m2))) h2 h3
  case k8 => ktr_room
  case k9 => exact BindsTo.of_eq rfl
  case c5 => decide
  case kB => exact locs rfl
  case c2 => exact rfl
  case c3 => exact rfl
  case c4 => exact rfl
  intro g' L' h' FG' F' N' B' X' T'
  try dsimp only
  try k_fold
  walk1
  refine wpAny_execs_cons ?_
  (rename Fr _ _ _ _ => F9); (rename News _ _ _ _ => N9)
  obtain ⟨m0, F9, hm0⟩ : ∃ m0, Fr _ _ _ m0 ∧ m0 (Str.ofString "many") = some (Value.int many tk0) := ⟨_, F9, rfl⟩
  rw [key_map m0 _ hm0] at F9
  refine' While_inv (fun n m₁ nx => (∃ u, m₁ = fun y => if y = Str.ofString "key" then u else if y = Str.ofString "many" then some (Value.int many tk0) else m0 y) ∧ ∃ (st' : LSt) (X : List (Addr × Obj)) (d : List LEnt), nx = LLed c st' (X ++ R) ∧ LCut st st' d ∧ LGood w c st' (X ++ K) ∧ (Ads (LLed c st' (X ++ R))).Nodup ∧ n = st'.ents.length ∧ min st.ents.length many.toNat ≤ n) F9 N9 ⟨⟨_, rfl⟩, st, [], [], rfl, LCut.refl st, G, hn, rfl, Nat.min_le_left _ _⟩ ?_ ?_
  · rintro n m₁ nx h₁ tk₁ F₁ N₁ ⟨⟨u, rfl⟩, st', X1, d, rfl, C, G', hn', rfl, hmin⟩
    have hle : st'.ents.length ≤ st.ents.length := by rw [C.hents]; simp
    have hroom := G'.hroom
    have hll : (lvals st'.ents).length = st'.ents.length := by simp [lvals]
    have hemp : st'.ents = [] ∨ ∃ l n, st'.ents = l ++ [n] := by
      rcases List.eq_nil_or_concat st'.ents with h | ⟨l, n, h⟩
      · exact .inl h
      · exact .inr ⟨l, n, by simpa using h⟩
    have m3' : (lA, cl1) ∈ X1 ++ R := List.mem_append_right _ m3
    have m4' : (hA, cl2) ∈ X1 ++ R := List.mem_append_right _ m4
    have m5' : (dA, cl3) ∈ X1 ++ R := List.mem_append_right _ m5
    clear F9 N9
    rcases hemp with h0 | ⟨l, e, hl⟩
    · have hz : st'.ents.length = 0 := by rw [h0]; rfl
      k_steps
      have hv := lcut_view C (m := many.toNat) (eq_min hle (hz ▸ Nat.zero_le _) hmin)
      exact ret st' X1 hv.1 hv.2 G' hn' _ _ (by assumption) (by assumption)
    · have hz : st'.ents.length = l.length + 1 := by rw [hl]; simp
      have hval := G'.val (e := e) (by rw [hl]; simp)
      have htup := G'.htup e (by rw [hl]; simp)
      have hoh := G'.hoh
      have hdl := G'.len
      have htup' : (e.t, e.obj) ∈ X1 ++ R := by
        rcases List.mem_append.mp htup with h | h
        · exact List.mem_append_left _ h
        · exact List.mem_append_right _ (hK _ h)
      have elv : lvals st'.ents = lvals l ++ [Value.int e.k e.kt] := by rw [hl]; simp [lvals]
      unfold LLed at N₁
      rw [elv] at N₁ hll
      have hz1 : (lvals l ++ [Value.int e.k e.kt]).length ≤ sizeLine := hll ▸ size_room hroom
      have hz2 : st'.hkvs.length ≤ sizeLine := hdl ▸ size_room hroom
      obtain ⟨d1, d2, d3, hoff⟩ := nd3 hn'
      have hll2 : (refsOf st'.dues).length ≤ 4096 := by rw [refsOf, List.length_map]; exact Nat.le_trans (Nat.le_add_right _ _) hroom
      cases hf : e.f with
      | false =>
        simp only [LEnt.obj, hf] at htup htup'
        k_steps
        · (rename Fr _ _ _ _ => F2)
          (rename News _ _ _ _ => N2)
          (rename Obj.IsDictOf _ _ (without _ _) => ho2)
          have F3 := key_map2 m0 u (Value.int e.k e.kt) (Value.int many tk0) ▸ F2
          (rename PySem.Obj => o9)
          have C2 : LCut st' ⟨l, o9, without st'.hkvs e.k, st'.dues, st'.ln + 1, st'.dn⟩ [e] := ⟨hl, by simp [goneAll, absE, goneOf, hf]⟩
          exact WhileStep.intro F3 N2 (n' := l.length) (lt_of_succ hz) ⟨⟨_, rfl⟩, ⟨l, o9, without st'.hkvs e.k, st'.dues, st'.ln + 1, st'.dn⟩, X1, [e] ++ d, rfl, C.trans C2, G'.rem (Y := []) hl ho2 G'.hdue (Nat.le_succ _), hn', rfl, min_step (by assumption) hz⟩
        · have hv := lcut_view C (m := many.toNat) (eq_min hle (le_toNat (by assumption)) hmin)
          refine ret st' X1 hv.1 hv.2 G' hn' _ _ (by assumption) ?_
          unfold LLed
          rw [elv]
          assumption
      | true =>
        simp only [LEnt.obj, hf] at htup htup'
        k_steps
        · (rename Fr _ _ _ _ => F2)
          (rename News _ _ _ _ => N2)
          (rename Obj.IsDictOf _ _ (without _ _) => ho2)
          (rename _ ∧ _ ∧ _ ∧ AllLt _ _ => l9)
          simp only [List.push_toArray] at N2
          have F3 := key_map2 m0 u (Value.int e.k e.kt) (Value.int many tk0) ▸ F2
          have N3 := N2
          (rename PySem.Obj => o9)
          obtain ⟨t9, N3, l9⟩ := ex_news (o := tup2 (.int e.k e.kt) (.int e.v e.vt)) (rest := fun t => (c.la, listOf (lvals l).toArray (st'.ln + 1)) :: (c.da, listOf (refsOf st'.dues ++ [Value.ref t]).toArray (st'.dn + 1)) :: (c.ha, o9) :: (X1 ++ R)) (P := fun t => c.la < t ∧ c.da < t ∧ c.ha < t ∧ AllLt t (X1 ++ R)) N3 l9
          have C2 : ∀ t, LCut st' ⟨l, o9, without st'.hkvs e.k, st'.dues ++ [⟨t, e.k, e.kt, e.v, e.vt⟩], st'.ln + 1, st'.dn + 1⟩ [e] := fun t => ⟨hl, by simp [goneAll, absE, goneOf, hf, absO]⟩
          have G2 := G'.rem (Y := [(t9, tup2 (.int e.k e.kt) (.int e.v e.vt))]) (ln' := st'.ln + 1) (dn' := st'.dn + 1) hl ho2 (dues' := st'.dues ++ [⟨t9, e.k, e.kt, e.v, e.vt⟩]) (fun u hu => by
            rcases List.mem_append.mp hu with h | h
            · exact .tail _ (G'.hdue u h)
            · rw [List.mem_singleton.mp h]; exact .head _) (by simp)
          have N4 := kst_newsOf N3 mD1
          have ed : (refsOf st'.dues ++ [Value.ref t9]) = refsOf (st'.dues ++ [(⟨t9, e.k, e.kt, e.v, e.vt⟩ : Tup)]) := by simp [refsOf]
          rw [ed] at N4
          refine WhileStep.intro F3 N4 (n' := l.length) (lt_of_succ hz) ⟨⟨_, rfl⟩, ⟨l, o9, without st'.hkvs e.k, st'.dues ++ [⟨t9, e.k, e.kt, e.v, e.vt⟩], st'.ln + 1, st'.dn + 1⟩, (t9, tup2 (.int e.k e.kt) (.int e.v e.vt)) :: X1, [e] ++ d, rfl, C.trans (C2 _), G2, ?_, rfl, min_step (by assumption) hz⟩
          refine nodup_perm (List.nodup_cons.mpr ⟨?_, hn'⟩ : (t9 :: Ads (LLed c st' (X1 ++ R))).Nodup) fun y => ?_
          · intro hm
            simp only [Ads, LLed, List.map_cons, List.mem_cons] at hm
            rcases hm with h | h | h | h
            · exact absurd l9.1 (h ▸ Nat.lt_irrefl _)
            · exact absurd l9.2.1 (h ▸ Nat.lt_irrefl _)
            · exact absurd l9.2.2.1 (h ▸ Nat.lt_irrefl _)
            · obtain ⟨p, hp, e1⟩ := List.mem_map.mp h
              exact absurd (ktn_ltOf l9.2.2.2 p hp) (e1 ▸ Nat.lt_irrefl _)
          · simp only [Ads, LLed, List.map_append, List.cons_append, List.map_cons, List.count_cons]; lia
        · have hv := lcut_view C (m := many.toNat) (eq_min hle (le_toNat (by assumption)) hmin)
          refine ret st' X1 hv.1 hv.2 G' hn' _ _ (by assumption) ?_
          unfold LLed
          rw [elv]
          assumption
  · first | passes_own | with_unfolding_all passes_own
end
section
-- LRes
open PySem PySem.W PySem.Calls PyProof.Rows
theorem rules_LRes0 : True := by
  k_with_none
  k_with "ne" => (refine neN ?_; (try dsimp only); first | assumption | (apply Ne.symm; assumption))
  k_with "tone" => (refine neN ?_; (try dsimp only); first | assumption | (apply Ne.symm; assumption))
  k_with "mem" => (first | assumption | exact mem_at 0 rfl | exact mem_at 1 rfl | exact mem_at 2 rfl | exact mem_at 3 rfl | exact mem_at 4 rfl | exact mem_at 5 rfl | exact mem_dr 1 (by assumption) | exact mem_dr 2 (by assumption) | exact mem_dr 3 (by assumption) | exact mem_dr 4 (by assumption) | exact mem_dr 5 (by assumption))
  k_with "getAttr ref" => (k_here; k_dflt ((first | (with_reducible refine' gN_p ?F1r ?X1r ?N1r ?h1r ?h2r ?v1r ?_) | (with_reducible refine' gN_nx ?F1r ?X1r ?N1r ?h1r ?h2r ?v1r ?_) | (with_reducible refine' gN_k ?F1r ?X1r ?N1r ?h1r ?h2r ?v1r ?_) | (with_reducible refine' gN_v ?F1r ?X1r ?N1r ?h1r ?h2r ?v1r ?_) | (with_reducible refine' gN_c ?F1r ?X1r ?N1r ?h1r ?h2r ?v1r ?_) | (with_reducible refine' gC_c ?F1r ?X1r ?N1r ?h1r ?h2r ?v1r ?_) | (with_reducible refine' gC_r ?F1r ?X1r ?N1r ?h1r ?h2r ?v1r ?_) | (with_reducible refine' gC_l ?F1r ?X1r ?N1r ?h1r ?h2r ?v1r ?_) | (with_reducible refine' gC_z ?F1r ?X1r ?N1r ?h1r ?h2r ?v1r ?_) | (with_reducible refine' gC_y ?F1r ?X1r ?N1r ?h1r ?h2r ?v1r ?_)); (case F1r => k_asm); (case X1r => k_asm); (case N1r => k_asm); (case h1r => k_mem); (case h2r => k_mem); (case v1r => k_handed); k_whole))
  k_with "setAttr ref" => (k_here; k_dflt (first | ((first | (with_reducible refine' sN_p ?F1r ?X1r ?N1r ?h1r ?h2r ?U1r ?_) | (with_reducible refine' sN_nx ?F1r ?X1r ?N1r ?h1r ?h2r ?U1r ?_) | (with_reducible refine' sN_v ?F1r ?X1r ?N1r ?h1r ?h2r ?U1r ?_) | (with_reducible refine' sN_c ?F1r ?X1r ?N1r ?h1r ?h2r ?U1r ?_) | (with_reducible refine' sC_r ?F1r ?X1r ?N1r ?h1r ?h2r ?U1r ?_) | (with_reducible refine' sC_l ?F1r ?X1r ?N1r ?h1r ?h2r ?U1r ?_) | (with_reducible refine' sC_z ?F1r ?X1r ?N1r ?h1r ?h2r ?U1r ?_) | (with_reducible refine' sC_y ?F1r ?X1r ?N1r ?h1r ?h2r ?U1r ?_)); (case F1r => k_asm); (case X1r => k_asm); (case N1r => k_asm); (case h1r => k_mem); (case h2r => k_mem); (case U1r => (first | exact upd_nd 0 (by assumption) rfl | exact upd_nd 1 (by assumption) rfl | exact upd_nd 2 (by assumption) rfl | exact upd_nd 3 (by assumption) rfl | exact upd_nd 4 (by assumption) rfl | exact upd_nd 5 (by assumption) rfl | k_upd)); k_whole) | (refine' set_dict ?k1r ?k2r ?k3r ?k4r ?k5r ?k6r ?k7r ?k8r ?k9r ?k10r ?k11r ?k12r ?k13r ?_; (case k1r => k_asm); (case k2r => k_asm); (case k3r => k_asm); (case k4r => k_inst); (case k5r => exact rfl); (case k6r => k_is); (case k7r => k_is); (case k8r => k_is); (case k9r => k_is); (case k10r => k_get); (case k11r => k_put); (case k12r => (first | exact upd_nd 0 (by assumption) rfl | exact upd_nd 1 (by assumption) rfl | exact upd_nd 2 (by assumption) rfl | exact upd_nd 3 (by assumption) rfl | exact upd_nd 4 (by assumption) rfl | exact upd_nd 5 (by assumption) rfl | k_upd)); (case k13r => exact Nat.le_of_ble_eq_true rfl); k_whole)); (refine (?_ : let l9 := _; ∀ h', Fr _ _ h' _ → News _ _ h' l9 → _)); intro l9r h'r F'r N'r; (try k_sweep))
  k_with "truthy ref" => (k_here; k_dflt ((refine' tN ?F1r ?X1r ?N1r ?h1r ?h2r ?_); (case F1r => k_asm); (case X1r => k_asm); (case N1r => k_asm); (case h1r => k_mem); (case h2r => k_mem); k_whole))
  k_with "storeName" => (k_here; k_dflt (refine' storeX_L ?F1r ?N1r ?_ ?a1r ?b1r; (case F1r => k_asm); (case N1r => k_asm); (case a1r => rfl); (case b1r => rfl); k_whole); (refine (?_ : let m9 := _; ∀ h', Fr _ _ h' m9 → News _ _ h' _ → _)); intro m9r h'r F'r N'r; (try k_sweep))
  k_with "subscriptTail" => (k_here; (with_reducible show wpAny _ _ (subscriptTail _ _ (Value.ref _) (Value.int _ _)) _ _ _); k_dflt (refine' kda_item (knd := PySem.intKind _ _) ?Nr ?mr ?dr (intKind_is _ _ _ _) ?vr ?_; (case Nr => k_asm); (case mr => k_mem); (case dr => assumption); (case vr => assumption)))
  k_with "getItem ref int" => (k_here; k_dflt (refine' gi_sym ?Nr ?mr ?dr ?vr ?_; (case Nr => k_asm); (case mr => k_mem); (case dr => assumption); (case vr => assumption); k_whole))
  k_with "call builtin:len" => (k_here; (with_reducible show wpAny _ _ (call (Value.builtin "len") [Value.ref _]) _ _ _); k_dflt (refine' kda_len (knd := PySem.intKind _ _) ?Nr ?mr ?dr ?lr ?zr ?_; (case Nr => k_asm); (case mr => k_mem); (case dr => assumption); (case lr => assumption); (case zr => first | assumption | lia); k_whole))
  k_with "compareOp In int ref" => (k_here; k_dflt (first
    | (refine' kda_in (knd := PySem.intKind _ _) ?Nr ?mr ?dr ?lr (intKind_is _ _ _ _) true ?br ?_; (case Nr => k_asm); (case mr => k_mem); (case dr => assumption); (case lr => assumption); (case br => exact Option.isSome_iff_exists.mpr ⟨_, by assumption⟩); k_whole)
    | (refine' kda_in (knd := PySem.intKind _ _) ?Nr ?mr ?dr ?lr (intKind_is _ _ _ _) false ?br ?_; (case Nr => k_asm); (case mr => k_mem); (case dr => assumption); (case lr => assumption); (case br => exact Option.isSome_eq_false_iff.mpr (Option.isNone_iff_eq_none.mpr (by assumption))); k_whole)))
  k_with "setItem ref int" => (k_here; k_dflt (refine' kda_set (knd := PySem.intKind _ _) ?Fr ?Nr ?Ur ?dr (intKind_is _ _ _ _) ?zr ?_; (case Fr => k_asm); (case Nr => k_asm); (case Ur => (first | exact updF_nd 0 (by assumption) rfl | exact updF_nd 1 (by assumption) rfl | exact updF_nd 2 (by assumption) rfl | exact updF_nd 3 (by assumption) rfl | exact updF_nd 4 (by assumption) rfl | exact updF_nd 5 (by assumption) rfl | k_updF)); (case dr => assumption); (case zr => assumption)); intro h'r o'r F'r N'r hd'r; (try dsimp only at N'r); (let n7r := newsOf N'r); (have N7r : News _ _ _ n7r := N'r))
  k_with "getMethod ref" => (k_here; (with_reducible show wpAny _ _ (getMethod (Value.ref _) (Str.ofString "pop") _) _ _ _); k_dflt (refine' kob_method (knd := PySem.intKind _ _) PySem.F.slot_dict_pop PySem.F.type_dict_pop ?Nr ?mr ?dr ?_; (case Nr => k_asm); (case mr => k_mem); (case dr => assumption)))
  k_with "getMethod ref" => (k_here; (with_reducible show wpAny _ _ (getMethod (Value.ref _) (Str.ofString "get") _) _ _ _); k_dflt (refine' kdg_method (knd := PySem.intKind _ _) ?Nr ?mr ?dr ?_; (case Nr => k_asm); (case mr => k_mem); (case dr => assumption)))
  k_with "call builtin:dict.pop" => (k_here; (with_reducible show wpAny _ _ (call (Value.builtin "dict.pop") [Value.ref _, Value.int _ _]) _ _ _); k_dflt (refine' kob_pop (knd := PySem.intKind _ _) (more := []) ?Fr ?Nr ?Ur ?dr (intKind_is _ _ _ _) (.inl rfl) (by rfl) (PySem.F.args_dict_pop_2 _ _) ?lr ?zr ?_; (case Fr => k_asm); (case Nr => k_asm); (case Ur => (first | exact updF_nd 0 (by assumption) rfl | exact updF_nd 1 (by assumption) rfl | exact updF_nd 2 (by assumption) rfl | exact updF_nd 3 (by assumption) rfl | exact updF_nd 4 (by assumption) rfl | exact updF_nd 5 (by assumption) rfl | k_updF)); (case dr => assumption); (case lr => assumption); (case zr => assumption)); intro h'r o'r F'r N'r hd'r; (try dsimp only at N'r); (let n7r := newsOf N'r); (have N7r : News _ _ _ n7r := N'r))
  k_with "call builtin:dict.get" => (k_here; (with_reducible show wpAny _ _ (call (Value.builtin "dict.get") [Value.ref _, Value.int _ _, _]) _ _ _); k_dflt (refine' kdg_get2 (knd := PySem.intKind _ _) ?Nr ?mr ?dr ?lr (intKind_is _ _ _ _) _ ?vr ?_; (case Nr => k_asm); (case mr => k_mem); (case dr => assumption); (case lr => assumption); (case vr => assumption)); (try dsimp only [Option.getD]))
  k_with "enter" => (refine' code_def ?k1r ?k2r ?k3r ?k4r ?k5r ?kAr ?kFr ?kKr ?k6r ?k7r ?k8r ?k9r ?kBr ?_ ?c2r ?c3r ?c4r ?c5r; (case kAr => exact rfl); (case kFr => exact rfl); (case kKr => first | exact rfl | assumption); (case k1r => k_asm); (case k2r => k_asm); (case k3r => k_asm); (case k4r => k_asm); (case k5r => k_asm); (case k6r => k_is); (case k7r => k_is); (case k8r => (first | exact room9 0 (by assumption) rfl | exact room9 1 (by assumption) rfl | exact room9 2 (by assumption) rfl | exact room9 3 (by assumption) rfl | exact room9 4 (by assumption) rfl | exact room9 5 (by assumption) rfl | exact room9 6 (by assumption) rfl | exact room9 7 (by assumption) rfl | exact room9 8 (by assumption) rfl | ktr_room)); (case k9r => first | exact BindsTo.of_eq rfl | exact binds_K (by k_in) rfl (by k_is) rfl rfl rfl); (case c5r => decide); (case kBr => exact locs rfl); (case c2r => exact rfl); (case c3r => exact rfl); (case c4r => exact rfl); k_whole; (refine (?_ : let m9 := _; ∀ g L h, Fr _ _ g _ → Fr _ _ h m9 → _)); intro m9r g'r L'r h'r FG'r F'r N'r B'r X'r T'r; (try dsimp only); (try k_fold); (refine (?_ : let e9 := _; let A9 := _; wpAny _ A9 (execs _ e9) _ _ _)); intro e9r A9r; (try ((with_reducible refine gen_tk ?_); intro tk9r)))
  trivial
section
variable {w : World} {p : Program} {loose : List Str} {mean : ExcName → Option Value} {mg mb : Str → Option Value}
  {dp un : Nat} {gd : Option (List Code)} {cn : Str} {cs : Scope} {a : Addr} {ccd : Value} {cl : List (Str × Addr)} {outer : List Env} {A₀ : Around} {base h₀ : Heap} {L : Addr} {m : Str → Option Value} {s : Shared} {Q E : Value → Shared → Prop}
  (B : Below A₀ base outer h₀) (F : Fr h₀ L s.heap m) (X : (hd.heap_39 w.params).In h₀) (T : Top p loose mean mg mb h₀) (hk : cs.kind = .function) (hdp : dp + 8 < recursionLimit)
include B F X T hk hdp
theorem rules_LRes1 : True := by
  k_with "call ref" => (k_here; (with_reducible show wpAny _ _ (call (Value.ref 172) _ _) _ _ _); k_dflt (refine wpAny_call ?_; ktr_enter))
  k_with "exec If" => (k_here; (rename OwnOff _ [_] => o9r); k_dflt (refine' upd_if ?b1r ?f1r ?x1r ?t1r ?s1r ?a1r ?v1r ?n1r ?m1r o9r ?z1r ?_; (case b1r => k_asm); (case f1r => k_asm); (case x1r => k_asm); (case t1r => k_asm); (case s1r => rfl); (case a1r => rfl); (case v1r => assumption); (case n1r => exact kst_newsOf (by k_asm) swap12); (case m1r => exact .tail _ (.tail _ (by assumption))); (case z1r => assumption)); intro h9r tk9r t9r F9r N8r; (have N9r := kst_newsOf N8r swap12); clear N8r; (try dsimp only); (try k_fold))
  trivial
variable {c : CFix} {st : CSt} {R : List (Addr × Obj)} {z y : Int} {tz : Tok} {v : Value}
omit B F X T hk hdp in
theorem swap12 {α : Type} {a b : α} {r : List α} : ∀ z, z ∈ a :: b :: r → z ∈ b :: a :: r
  | _, .head _ => .tail _ (.head _)
  | _, .tail _ (.head _) => .head _
  | _, .tail _ (.tail _ h) => .tail _ (.tail _ h)
set_option maxRecDepth 100000 in
set_option maxHeartbeats 8000000 in
theorem rs_any (N : News h₀ L s.heap (Led c st R)) (G : Good w c st R) (hG : GoneSpec w p loose mean mg mb c.ga c.ol c.S₀) (hz : 1 ≤ z ∧ z ≤ 5) (hv : KeepV v y)
  (ret : ∀ (st' : CSt) (X : List (Addr × Obj)), absS st' = vdrop (stayOf z y).toNat { absS st with size := z, stay := stayOf z y } → Good w c st' (X ++ R) → Back h₀ L m s Q .none (Led c st' (X ++ R))) :
  wpAny (model PySem.Challenge.rw_iy0004_01.row.prog w) (ktrTop dp un gd cn cs L a ccd cl outer) (call (.ref 164) [.ref c.ca, .int z tz, v]) Q E s := by
  revert X; k_fill; intro X
  let l9 := newsOf N
  have N9 : News _ _ _ l9 := N
  have hca : (c.ca, instObj 175 c.cd) ∈ seg c.ga .none st.line .none ++ R := List.mem_append_right _ G.hca
  have hnd := G.hnd
  have hnd' : (c.ol :: c.cd :: c.dc :: Ads (seg c.ga .none st.line .none ++ R)).Nodup := by
    rw [show Ads (seg c.ga .none st.line .none ++ R) = st.line.map Node.d ++ Ads R by rw [← ads_seg (ga := c.ga) st.line .none .none]; exact List.map_append]
    exact hnd
  have hoff : OwnOff ((c.ol, listOf (refsOf st.os).toArray st.nn) :: (c.dc, st.oc) :: (seg c.ga .none st.line .none ++ R)) [c.cd] := nd1 ((List.Perm.swap _ _ _).nodup_iff.mp hnd')
  obtain ⟨d1, d2, d3, hoff0⟩ := nd3 hnd'
  refine wpAny_call ?_
  k_dflt ktr_enter
  k_steps
  refine' cl_ok (st := { st with size := z, zt := tz, stay := stayOf z y, yt := _ }) ?u1 ?u2 ?u3 ?u4 rfl ?u6 ?u7 (G.sized _ _ _ _) hG (stayOf_bounds hz.1).1 ?_
  case u1 => k_asm
  case u2 => k_asm
  case u3 => k_asm
  case u4 => k_asm
  case u6 => (first | exact room9 0 (by assumption) rfl | exact room9 1 (by assumption) rfl | exact room9 2 (by assumption) rfl | exact room9 3 (by assumption) rfl | exact room9 4 (by assumption) rfl | exact room9 5 (by assumption) rfl | exact room9 6 (by assumption) rfl | exact room9 7 (by assumption) rfl | exact room9 8 (by assumption) rfl | ktr_room)
  case u7 => assumption
  intro st2 X2 dd C2 hl2 G2 h9 tk9 F9 N9
  try dsimp only
  try k_fold
  k_steps
  exact ret st2 X2 (cut_view C2 hl2) G2 _ _ (by assumption) (by assumption)
end
end
section
-- LSet
open PySem PySem.W PySem.Calls PyProof.Rows
theorem rules_LSet0 : True := by
  k_with_none
  k_with "ne" => (refine neN ?_; (try dsimp only); first | assumption | (apply Ne.symm; assumption))
  k_with "tone" => (refine neN ?_; (try dsimp only); first | assumption | (apply Ne.symm; assumption))
  k_with "mem" => (first | assumption | exact mem_at 0 rfl | exact mem_at 1 rfl | exact mem_at 2 rfl | exact mem_at 3 rfl | exact mem_at 4 rfl | exact mem_at 5 rfl | exact mem_dr 1 (by assumption) | exact mem_dr 2 (by assumption) | exact mem_dr 3 (by assumption) | exact mem_dr 4 (by assumption) | exact mem_dr 5 (by assumption))
  k_with "getAttr ref" => (k_here; k_dflt ((first | (with_reducible refine' gN_p ?F1r ?X1r ?N1r ?h1r ?h2r ?v1r ?_) | (with_reducible refine' gN_nx ?F1r ?X1r ?N1r ?h1r ?h2r ?v1r ?_) | (with_reducible refine' gN_k ?F1r ?X1r ?N1r ?h1r ?h2r ?v1r ?_) | (with_reducible refine' gN_v ?F1r ?X1r ?N1r ?h1r ?h2r ?v1r ?_) | (with_reducible refine' gN_c ?F1r ?X1r ?N1r ?h1r ?h2r ?v1r ?_) | (with_reducible refine' gC_c ?F1r ?X1r ?N1r ?h1r ?h2r ?v1r ?_) | (with_reducible refine' gC_r ?F1r ?X1r ?N1r ?h1r ?h2r ?v1r ?_) | (with_reducible refine' gC_l ?F1r ?X1r ?N1r ?h1r ?h2r ?v1r ?_) | (with_reducible refine' gC_z ?F1r ?X1r ?N1r ?h1r ?h2r ?v1r ?_) | (with_reducible refine' gC_y ?F1r ?X1r ?N1r ?h1r ?h2r ?v1r ?_)); (case F1r => k_asm); (case X1r => k_asm); (case N1r => k_asm); (case h1r => k_mem); (case h2r => k_mem); (case v1r => k_handed); k_whole))
  k_with "setAttr ref" => (k_here; k_dflt (first | ((first | (with_reducible refine' sN_p ?F1r ?X1r ?N1r ?h1r ?h2r ?U1r ?_) | (with_reducible refine' sN_nx ?F1r ?X1r ?N1r ?h1r ?h2r ?U1r ?_) | (with_reducible refine' sN_v ?F1r ?X1r ?N1r ?h1r ?h2r ?U1r ?_) | (with_reducible refine' sN_c ?F1r ?X1r ?N1r ?h1r ?h2r ?U1r ?_) | (with_reducible refine' sC_r ?F1r ?X1r ?N1r ?h1r ?h2r ?U1r ?_) | (with_reducible refine' sC_l ?F1r ?X1r ?N1r ?h1r ?h2r ?U1r ?_) | (with_reducible refine' sC_z ?F1r ?X1r ?N1r ?h1r ?h2r ?U1r ?_) | (with_reducible refine' sC_y ?F1r ?X1r ?N1r ?h1r ?h2r ?U1r ?_)); (case F1r => k_asm); (case X1r => k_asm); (case N1r => k_asm); (case h1r => k_mem); (case h2r => k_mem); (case U1r => (first | exact upd_nd 0 (by assumption) rfl | exact upd_nd 1 (by assumption) rfl | exact upd_nd 2 (by assumption) rfl | exact upd_nd 3 (by assumption) rfl | exact upd_nd 4 (by assumption) rfl | exact upd_nd 5 (by assumption) rfl | k_upd)); k_whole) | (refine' set_dict ?k1r ?k2r ?k3r ?k4r ?k5r ?k6r ?k7r ?k8r ?k9r ?k10r ?k11r ?k12r ?k13r ?_; (case k1r => k_asm); (case k2r => k_asm); (case k3r => k_asm); (case k4r => k_inst); (case k5r => exact rfl); (case k6r => k_is); (case k7r => k_is); (case k8r => k_is); (case k9r => k_is); (case k10r => k_get); (case k11r => k_put); (case k12r => (first | exact upd_nd 0 (by assumption) rfl | exact upd_nd 1 (by assumption) rfl | exact upd_nd 2 (by assumption) rfl | exact upd_nd 3 (by assumption) rfl | exact upd_nd 4 (by assumption) rfl | exact upd_nd 5 (by assumption) rfl | k_upd)); (case k13r => exact Nat.le_of_ble_eq_true rfl); k_whole)); (refine (?_ : let l9 := _; ∀ h', Fr _ _ h' _ → News _ _ h' l9 → _)); intro l9r h'r F'r N'r; (try k_sweep))
  k_with "truthy ref" => (k_here; k_dflt ((refine' tN ?F1r ?X1r ?N1r ?h1r ?h2r ?_); (case F1r => k_asm); (case X1r => k_asm); (case N1r => k_asm); (case h1r => k_mem); (case h2r => k_mem); k_whole))
  k_with "storeName" => (k_here; k_dflt (refine' storeX_L ?F1r ?N1r ?_ ?a1r ?b1r; (case F1r => k_asm); (case N1r => k_asm); (case a1r => rfl); (case b1r => rfl); k_whole); (refine (?_ : let m9 := _; ∀ h', Fr _ _ h' m9 → News _ _ h' _ → _)); intro m9r h'r F'r N'r; (try k_sweep))
  k_with "subscriptTail" => (k_here; (with_reducible show wpAny _ _ (subscriptTail _ _ (Value.ref _) (Value.int _ _)) _ _ _); k_dflt (refine' kda_item (knd := PySem.intKind _ _) ?Nr ?mr ?dr (intKind_is _ _ _ _) ?vr ?_; (case Nr => k_asm); (case mr => k_mem); (case dr => assumption); (case vr => assumption)))
  k_with "call builtin:len" => (k_here; (with_reducible show wpAny _ _ (call (Value.builtin "len") [Value.ref _]) _ _ _); k_dflt (refine' kda_len (knd := PySem.intKind _ _) ?Nr ?mr ?dr ?lr ?zr ?_; (case Nr => k_asm); (case mr => k_mem); (case dr => assumption); (case lr => assumption); (case zr => first | assumption | omega); k_whole))
  k_with "compareOp In int ref" => (k_here; k_dflt (first
    | (refine' kda_in (knd := PySem.intKind _ _) ?Nr ?mr ?dr ?lr (intKind_is _ _ _ _) true ?br ?_; (case Nr => k_asm); (case mr => k_mem); (case dr => assumption); (case lr => assumption); (case br => exact Option.isSome_iff_exists.mpr ⟨_, by assumption⟩); k_whole)
    | (refine' kda_in (knd := PySem.intKind _ _) ?Nr ?mr ?dr ?lr (intKind_is _ _ _ _) false ?br ?_; (case Nr => k_asm); (case mr => k_mem); (case dr => assumption); (case lr => assumption); (case br => exact Option.isSome_eq_false_iff.mpr (Option.isNone_iff_eq_none.mpr (by assumption))); k_whole)))
  k_with "setItem ref int" => (k_here; k_dflt (refine' kda_set (knd := PySem.intKind _ _) ?Fr ?Nr ?Ur ?dr (intKind_is _ _ _ _) ?zr ?_; (case Fr => k_asm); (case Nr => k_asm); (case Ur => (first | exact updF_nd 0 (by assumption) rfl | exact updF_nd 1 (by assumption) rfl | exact updF_nd 2 (by assumption) rfl | exact updF_nd 3 (by assumption) rfl | exact updF_nd 4 (by assumption) rfl | exact updF_nd 5 (by assumption) rfl | k_updF)); (case dr => assumption); (case zr => assumption)); intro h'r o'r F'r N'r hd'r; (try dsimp only at N'r); (let n7r := newsOf N'r); (have N7r : News _ _ _ n7r := N'r))
  k_with "enter" => (refine' code_def ?k1r ?k2r ?k3r ?k4r ?k5r ?kAr ?kFr ?kKr ?k6r ?k7r ?k8r ?k9r ?kBr ?_ ?c2r ?c3r ?c4r ?c5r; (case kAr => exact rfl); (case kFr => exact rfl); (case kKr => first | exact rfl | assumption); (case k1r => k_asm); (case k2r => k_asm); (case k3r => k_asm); (case k4r => k_asm); (case k5r => k_asm); (case k6r => k_is); (case k7r => k_is); (case k8r => (first | exact room9 0 (by assumption) rfl | exact room9 1 (by assumption) rfl | exact room9 2 (by assumption) rfl | exact room9 3 (by assumption) rfl | exact room9 4 (by assumption) rfl | exact room9 5 (by assumption) rfl | exact room9 6 (by assumption) rfl | exact room9 7 (by assumption) rfl | exact room9 8 (by assumption) rfl | ktr_room)); (case k9r => first | exact BindsTo.of_eq rfl | exact binds_K (by k_in) rfl (by k_is) rfl rfl rfl); (case c5r => decide); (case kBr => exact locs rfl); (case c2r => exact rfl); (case c3r => exact rfl); (case c4r => exact rfl); k_whole; (refine (?_ : let m9 := _; ∀ g L h, Fr _ _ g _ → Fr _ _ h m9 → _)); intro m9r g'r L'r h'r FG'r F'r N'r B'r X'r T'r; (try dsimp only); (try k_fold); (refine (?_ : let e9 := _; let A9 := _; wpAny _ A9 (execs _ e9) _ _ _)); intro e9r A9r; (try ((with_reducible refine gen_tk ?_); intro tk9r)))
  k_with "call ref" => (k_here; k_dflt (refine' call_cls ?k1r ?k2r ?k3r ?k4r ?k5r ?k6r ?_; (case k1r => k_asm); (case k2r => k_asm); (case k3r => k_asm); (case k4r => k_is); (case k5r => k_is); (case k6r => k_is); k_whole; intro x'r d'r h'r F'r N'r l8r l7r; (let n7r := newsOf N'r); (have N7r : News _ _ _ n7r := N'r); (have hn9r := nd_new2 l8r l7r (by assumption)); (try k_sweep); ktr_enter))
  trivial
section
variable {w : World} {p : Program} {loose : List Str} {mean : ExcName → Option Value} {mg mb : Str → Option Value}
  {dp un : Nat} {gd : Option (List Code)} {cn : Str} {cs : Scope} {a : Addr} {ccd : Value} {cl : List (Str × Addr)} {outer : List Env} {A₀ : Around} {base h₀ : Heap} {L : Addr} {m : Str → Option Value} {s : Shared} {Q E : Value → Shared → Prop}
  (B : Below A₀ base outer h₀) (F : Fr h₀ L s.heap m) (X : (hd.heap_39 w.params).In h₀) (T : Top p loose mean mg mb h₀) (hk : cs.kind = .function) (hdp : dp + 8 < recursionLimit)
include B F X T hk hdp
theorem rules_LSet1 : True := by
  k_with "call ref" => (k_here; (with_reducible show wpAny _ _ (call (Value.ref 87) _ _) _ _ _); (rename GoneSpec _ _ _ _ _ _ _ _ _ => hG9r); k_dflt (first
    | (refine' add_new (fl := false) ?g1r ?g2r ?g3r ?g4r rfl ?g6r ?g7r ?g8r hG9r ?g9r ?gar ?gbr ?gcr ?_ rfl (.inr ⟨rfl, rfl⟩); (case g1r => k_asm); (case g2r => k_asm); (case g3r => k_asm); (case g4r => k_asm); (case g6r => (first | exact room9 0 (by assumption) rfl | exact room9 1 (by assumption) rfl | exact room9 2 (by assumption) rfl | exact room9 3 (by assumption) rfl | exact room9 4 (by assumption) rfl | exact room9 5 (by assumption) rfl | exact room9 6 (by assumption) rfl | exact room9 7 (by assumption) rfl | exact room9 8 (by assumption) rfl | ktr_room)); (case g7r => assumption); (case g8r => assumption); (case g9r => assumption); (case gar => assumption); (case gbr => assumption); (case gcr => assumption))
    | (refine' add_old (fl := false) ?g1r ?g2r ?g3r ?g4r rfl ?g6r ?g7r ?g8r hG9r ?g9r ?gar ?gbr ?_ rfl (.inr ⟨rfl, rfl⟩); (case g1r => k_asm); (case g2r => k_asm); (case g3r => k_asm); (case g4r => k_asm); (case g6r => (first | exact room9 0 (by assumption) rfl | exact room9 1 (by assumption) rfl | exact room9 2 (by assumption) rfl | exact room9 3 (by assumption) rfl | exact room9 4 (by assumption) rfl | exact room9 5 (by assumption) rfl | exact room9 6 (by assumption) rfl | exact room9 7 (by assumption) rfl | exact room9 8 (by assumption) rfl | ktr_room)); (case g7r => assumption); (case g8r => assumption); (case g9r => assumption); (case gar => assumption); (case gbr => assumption))); intro st9r X9r e9r G9r h9r tk9r F9r N9r; (try dsimp only); (try k_fold))
  trivial
variable {c : CFix} {st : CSt} {R : List (Addr × Obj)} {k v : Int} {tk0 tv0 : Tok}
set_option maxRecDepth 100000 in
set_option maxHeartbeats 8000000 in
theorem set_new (N : News h₀ L s.heap (Led c st R)) (G : Good w c st R) (hG : GoneSpec w p loose mean mg mb c.ga c.ol c.S₀) (hs : 0 ≤ st.stay) (hz : (st.line.length : Int) ≤ st.size) (hk0 : k ∉ st.line.map Node.k) (hroom : st.os.length + st.line.length < 4096)
  (ret : ∀ (st' : CSt) (X : List (Addr × Obj)), absS st' = vadd k v false (absS st) → Good w c st' (X ++ R) → Back h₀ L m s Q .none (Led c st' (X ++ R))) :
  wpAny (model PySem.Challenge.rw_iy0004_01.row.prog w) (ktrTop dp un gd cn cs L a ccd cl outer) (call (.ref 128) [.ref c.ca, .int k tk0, .int v tv0]) Q E s := by
  revert X; k_fill; intro X
  let l9 := newsOf N
  have N9 : News _ _ _ l9 := N
  have hca : (c.ca, instObj 175 c.cd) ∈ seg c.ga .none st.line .none ++ R := List.mem_append_right _ G.hca
  have hnd := G.hnd
  have hnd' : (c.ol :: c.cd :: c.dc :: Ads (seg c.ga .none st.line .none ++ R)).Nodup := by
    rw [show Ads (seg c.ga .none st.line .none ++ R) = st.line.map Node.d ++ Ads R by rw [← ads_seg (ga := c.ga) st.line .none .none]; exact List.map_append]
    exact hnd
  obtain ⟨d1, d2, d3, hoff⟩ := nd3 hnd'
  refine wpAny_call ?_
  k_dflt ktr_enter
  k_steps
  exact ret _ _ (by assumption) (by assumption) _ _ (by assumption) (by assumption)
set_option maxRecDepth 100000 in
set_option maxHeartbeats 8000000 in
theorem set_old {pre post : List Node} {n : Node} (N : News h₀ L s.heap (Led c st R)) (G : Good w c st R) (hG : GoneSpec w p loose mean mg mb c.ga c.ol c.S₀) (hl : st.line = pre ++ n :: post) (hz : (st.line.length : Int) ≤ st.size) (hroom : st.os.length + st.line.length < 4096)
  (ret : ∀ (st' : CSt) (X : List (Addr × Obj)), absS st' = vadd n.k v false (absS st) → Good w c st' (X ++ R) → Back h₀ L m s Q .none (Led c st' (X ++ R))) :
  wpAny (model PySem.Challenge.rw_iy0004_01.row.prog w) (ktrTop dp un gd cn cs L a ccd cl outer) (call (.ref 128) [.ref c.ca, .int n.k tk0, .int v tv0]) Q E s := by
  revert X; k_fill; intro X
  let l9 := newsOf N
  have N9 : News _ _ _ l9 := N
  have hca : (c.ca, instObj 175 c.cd) ∈ seg c.ga .none st.line .none ++ R := List.mem_append_right _ G.hca
  have hnd := G.hnd
  have hnd' : (c.ol :: c.cd :: c.dc :: Ads (seg c.ga .none st.line .none ++ R)).Nodup := by
    rw [show Ads (seg c.ga .none st.line .none ++ R) = st.line.map Node.d ++ Ads R by rw [← ads_seg (ga := c.ga) st.line .none .none]; exact List.map_append]
    exact hnd
  obtain ⟨d1, d2, d3, hoff⟩ := nd3 hnd'
  refine wpAny_call ?_
  k_dflt ktr_enter
  k_steps
  exact ret _ _ (by assumption) (by assumption) _ _ (by assumption) (by assumption)
end
end
section
-- LInv
open PySem PySem.W PySem.Calls PyProof.Rows
set_option genInjectivity false in
set_option genSizeOf false in
/-- all that stands still while the law runs -/
structure LawFix where
  c : CFix
  lc : LFix
  da : Addr
  ua : Addr
  Sd : List (Addr × Obj)
  Su : List (Addr × Obj)
  L : Addr
  oout : Obj
  oline : Obj
  oheld : Obj
  odue : Obj
structure Stat (x : LawFix) (R : List (Addr × Obj)) : Prop where
  gS : ∀ y ∈ x.c.S₀, y ∈ R
  dS : ∀ y ∈ x.Sd, y ∈ R
  uS : ∀ y ∈ x.Su, y ∈ R
  dfn : ∃ oc od fd sl, (x.da, (⟨oc, od, .func fd, sl⟩ : Obj)) ∈ R
  ufn : ∃ oc od fd sl, (x.ua, (⟨oc, od, .func fd, sl⟩ : Obj)) ∈ R
  mout : (x.L + 1 + 1 + 1 + 1, x.oout) ∈ R
  mline : (x.L + 1 + 1 + 1, x.oline) ∈ R
  mheld : (x.L + 1 + 1, x.oheld) ∈ R
  mdue : (x.L + 1, x.odue) ∈ R
  vout : x.oout.data = .cell (some (.ref x.c.ol))
  vline : x.oline.data = .cell (some (.ref x.lc.la))
  vheld : x.oheld.data = .cell (some (.ref x.lc.ha))
  vdue : x.odue.data = .cell (some (.ref x.lc.da))
structure Inv (w : World) (x : LawFix) (cst : CSt) (lst : LSt) (R : List (Addr × Obj)) (i : Nat) : Prop where
  G : Good w x.c cst (Ldyn x.lc lst ++ R)
  P : LGood w x.lc lst R
  S : Stat x R
  vl : absL cst.line = absE lst.ents
  vo : absO cst.os = absO lst.dues
  hz : 1 ≤ cst.size ∧ cst.size ≤ 5
  hy : 0 ≤ cst.stay ∧ cst.stay ≤ cst.size
  hl : (cst.line.length : Int) ≤ cst.size
  hi : cst.os.length ≤ 8 * i
  hk : ∀ n ∈ cst.line, 0 ≤ n.k ∧ n.k < 7
theorem Stat.mono {x : LawFix} {R X : List (Addr × Obj)} (S : Stat x R) : Stat x (X ++ R) := by
  have h : ∀ y ∈ R, y ∈ X ++ R := fun y hy => List.mem_append_right _ hy
  obtain ⟨a, b, c, d, e1⟩ := S.dfn
  obtain ⟨a2, b2, c2, d2, e2⟩ := S.ufn
  exact ⟨fun y hy => h _ (S.gS y hy), fun y hy => h _ (S.dS y hy), fun y hy => h _ (S.uS y hy), ⟨a, b, c, d, h _ e1⟩, ⟨a2, b2, c2, d2, h _ e2⟩, h _ S.mout, h _ S.mline, h _ S.mheld, h _ S.mdue, S.vout, S.vline, S.vheld, S.vdue⟩
theorem LGood.mono {w : World} {c : LFix} {s : LSt} {K X : List (Addr × Obj)} (G : LGood w c s K) : LGood w c s (X ++ K) :=
  ⟨G.hoh, G.hkv, G.hkeys, fun e he => List.mem_append_right _ (G.htup e he), fun u hu => List.mem_append_right _ (G.hdue u hu), G.hha, G.hroom⟩
/-- the ledger as the cache's methods take it -/
noncomputable abbrev LedC (x : LawFix) (cst : CSt) (lst : LSt) (R : List (Addr × Obj)) : List (Addr × Obj) := Led x.c cst (Ldyn x.lc lst ++ R)
/-- and as the law's own defs take it -/
noncomputable abbrev LedL (x : LawFix) (cst : CSt) (lst : LSt) (R : List (Addr × Obj)) : List (Addr × Obj) := LLed x.lc lst (Led x.c cst R)
section
variable {α : Type} {o c d l u h : α} {P R X : List α}
theorem mI1 : ∀ z, z ∈ l :: u :: h :: o :: c :: d :: (P ++ R) → z ∈ o :: c :: d :: (P ++ ([l, u, h] ++ R)) := by
  intro z hz; simp only [List.mem_cons, List.mem_append, List.not_mem_nil, or_false] at *; grind
theorem mI2 : ∀ z, z ∈ o :: c :: d :: (P ++ ([l, u, h] ++ R)) → z ∈ l :: u :: h :: o :: c :: d :: (P ++ R) := by
  intro z hz; simp only [List.mem_cons, List.mem_append, List.not_mem_nil, or_false] at *; grind
theorem mI3 : ∀ z, z ∈ o :: c :: d :: (P ++ ([l, u, h] ++ (X ++ R))) → z ∈ o :: c :: d :: (P ++ (X ++ ([l, u, h] ++ R))) := by
  intro z hz; simp only [List.mem_cons, List.mem_append, List.not_mem_nil, or_false] at *; grind
theorem mI4 : ∀ z, z ∈ o :: c :: d :: (P ++ ([l, u, h] ++ (X ++ R))) → z ∈ l :: u :: h :: (X ++ o :: c :: d :: (P ++ R)) := by
  intro z hz; simp only [List.mem_cons, List.mem_append, List.not_mem_nil, or_false] at *; grind
end
theorem ledCL {x : LawFix} {cst : CSt} {lst : LSt} {R : List (Addr × Obj)} : ∀ z, z ∈ LedL x cst lst R → z ∈ LedC x cst lst R := mI1
theorem ledLC {x : LawFix} {cst : CSt} {lst : LSt} {R : List (Addr × Obj)} : ∀ z, z ∈ LedC x cst lst R → z ∈ LedL x cst lst R := mI2
theorem ledX {x : LawFix} {cst : CSt} {lst : LSt} {R X : List (Addr × Obj)} : ∀ z, z ∈ LedC x cst lst (X ++ R) → z ∈ Led x.c cst (X ++ (Ldyn x.lc lst ++ R)) := mI3
theorem ledY {x : LawFix} {cst : CSt} {lst : LSt} {R X : List (Addr × Obj)} : ∀ z, z ∈ LedC x cst lst (X ++ R) → z ∈ LLed x.lc lst (X ++ Led x.c cst R) := mI4
/-- the law's own lists and dicts are none of the cache's objects -/
theorem not_dyn {w : World} {x : LawFix} {lst : LSt} {K R X : List (Addr × Obj)} (P : LGood w x.lc lst K) {p : Addr × Obj} (h : p ∈ X ++ (Ldyn x.lc lst ++ R)) (h1 : p.2.cls ≠ .type "list") (h2 : p.2.cls ≠ .type "dict") : p ∈ X ++ R := by
  rcases List.mem_append.mp h with h | h
  · exact List.mem_append_left _ h
  · rcases List.mem_append.mp h with h | h
    · exfalso
      simp only [Ldyn, List.mem_cons, List.not_mem_nil, or_false] at h
      rcases h with rfl | rfl | rfl
      · exact h1 rfl
      · exact h1 rfl
      · obtain ⟨es, ep, he, _⟩ := P.hoh
        exact h2 he.1
    · exact List.mem_append_right _ h
theorem nodup_swap {x : LawFix} {cst : CSt} {lst : LSt} {R X : List (Addr × Obj)} (h : (x.c.ol :: x.c.cd :: x.c.dc :: (cst.line.map Node.d ++ Ads (X ++ (Ldyn x.lc lst ++ R)))).Nodup) (lst' : LSt) :
    (x.c.ol :: x.c.cd :: x.c.dc :: (cst.line.map Node.d ++ Ads (Ldyn x.lc lst' ++ (X ++ R)))).Nodup :=
  nodup_perm h fun y => by
    simp only [Ads, Ldyn, List.map_append, List.cons_append, List.nil_append, List.map_cons, List.map_nil, List.count_cons, List.count_append, List.count_nil]; lia
/-- a cache that a method has handed back, the law's books as they will be -/
theorem Good.swap {w : World} {x : LawFix} {cst : CSt} {lst : LSt} {K R X : List (Addr × Obj)} (G : Good w x.c cst (X ++ (Ldyn x.lc lst ++ R))) (P : LGood w x.lc lst K) (S : ∀ y ∈ x.c.S₀, y ∈ R) {lst' : LSt} {R' : List (Addr × Obj)} (hR : ∀ y ∈ X ++ R, y ∈ R')
    (hnd : (x.c.ol :: x.c.cd :: x.c.dc :: (cst.line.map Node.d ++ Ads (Ldyn x.lc lst' ++ R'))).Nodup) : Good w x.c cst (Ldyn x.lc lst' ++ R') := by
  have hX : ∀ y, y ∈ X ++ R → y ∈ Ldyn x.lc lst' ++ R' := fun y hy => List.mem_append_right _ (hR y hy)
  refine ⟨G.hoc, G.hkv, G.hkeys, hX _ (not_dyn P G.hca (by simp [instObj]) (by simp [instObj])), fun n hn => hX _ (not_dyn P (G.hin n hn) (by simp [instObj]) (by simp [instObj])), fun u hu => hX _ (not_dyn P (G.hos u hu) (by simp [Tup.obj, tup2]) (by simp [Tup.obj, tup2])), hnd, fun y hy => hX _ (List.mem_append_right _ (S y hy)), G.hdc, G.hga, G.hroom⟩
structure HasLaw (x : LawFix) (cst : CSt) (m : Str → Option Value) : Prop where
  cache : m (Str.ofString "cache") = some (.ref x.c.ca)
  size : ∃ t, m (Str.ofString "size") = some (.int cst.size t)
  stay : ∃ t, m (Str.ofString "stay") = some (.int cst.stay t)
  gone : m (Str.ofString "gone") = some (.ref x.c.ga)
  drop : m (Str.ofString "drop") = some (.ref x.da)
  use : m (Str.ofString "use") = some (.ref x.ua)
noncomputable def DeedEnd (w : World) (x : LawFix) (g : Heap) (s : Shared) (R : List (Addr × Obj)) (i : Nat) (key : Int) (f : Flow) (s' : Shared) : Prop :=
  f = .next ∧ ∃ (h' : Heap) (tk : Nat) (m' : Str → Option Value) (cst' : CSt) (lst' : LSt) (R' : List (Addr × Obj)) (tkk : Tok), s' = { s with heap := h', toks := tk } ∧ Fr g x.L h' m' ∧ HasLaw x cst' m' ∧ m' (Str.ofString "key") = some (.int key tkk) ∧
    News g x.L h' (LedC x cst' lst' R') ∧ Inv w x cst' lst' R' i ∧ ∀ y ∈ R, y ∈ R'
theorem DeedEnd.intro {w : World} {x : LawFix} {g : Heap} {s : Shared} {R : List (Addr × Obj)} {i : Nat} {key : Int} {h' : Heap} {tk : Nat} {m' : Str → Option Value} {cst' : CSt} {lst' : LSt} {R' : List (Addr × Obj)} {tkk : Tok}
    (F : Fr g x.L h' m') (H : HasLaw x cst' m') (hkey : m' (Str.ofString "key") = some (.int key tkk)) (N : News g x.L h' (LedC x cst' lst' R')) (I : Inv w x cst' lst' R' i) (hR : ∀ y ∈ R, y ∈ R') : DeedEnd w x g s R i key .next { s with heap := h', toks := tk } :=
  ⟨rfl, h', tk, m', cst', lst', R', tkk, rfl, F, H, hkey, N, I, hR⟩
theorem Inv.later {w : World} {x : LawFix} {cst : CSt} {lst : LSt} {R : List (Addr × Obj)} {i j : Nat} (I : Inv w x cst lst R i) (h : i ≤ j) : Inv w x cst lst R j :=
  ⟨I.G, I.P, I.S, I.vl, I.vo, I.hz, I.hy, I.hl, by have := I.hi; lia, I.hk⟩
/-- the names of the law's frame that a turn reads -/
noncomputable abbrev lawMap (x : LawFix) (size stay : Int) (zt yt : Tok) (m : Str → Option Value) : Str → Option Value := fun y =>
  if y = Str.ofString "cache" then some (.ref x.c.ca) else if y = Str.ofString "size" then some (.int size zt) else if y = Str.ofString "stay" then some (.int stay yt) else
  if y = Str.ofString "gone" then some (.ref x.c.ga) else if y = Str.ofString "drop" then some (.ref x.da) else if y = Str.ofString "use" then some (.ref x.ua) else m y
theorem lawMap_of {x : LawFix} {cst : CSt} {m : Str → Option Value} (H : HasLaw x cst m) : ∃ zt yt, m = lawMap x cst.size cst.stay zt yt m := by
  obtain ⟨h1, ⟨zt, h2⟩, ⟨yt, h3⟩, h4, h5, h6⟩ := H
  refine ⟨zt, yt, ?_⟩
  funext y
  unfold lawMap
  split
  · rename_i e; rw [e, h1]
  split
  · rename_i e; rw [e, h2]
  split
  · rename_i e; rw [e, h3]
  split
  · rename_i e; rw [e, h4]
  split
  · rename_i e; rw [e, h5]
  split
  · rename_i e; rw [e, h6]
  rfl
noncomputable abbrev deedMap (x : LawFix) (size stay : Int) (zt yt : Tok) (kind q key fresh : Int) (t1 t2 t3 t4 : Tok) (m : Str → Option Value) : Str → Option Value := fun y =>
  if y = Str.ofString "fresh" then some (.int fresh t4) else if y = Str.ofString "key" then some (.int key t3) else if y = Str.ofString "q" then some (.int q t2) else if y = Str.ofString "kind" then some (.int kind t1) else lawMap x size stay zt yt m y
end
section
-- LBoth
open PySem PySem.W PySem.Calls PyProof.Rows
theorem vfind_splitE (pre post : List LEnt) (n : LEnt) (hk : ((pre ++ n :: post).map LEnt.k).Nodup) : vfind (absE (pre ++ n :: post)) n.k = some (n.k, n.v, n.f) ∧ vrest (absE (pre ++ n :: post)) n.k = absE (pre ++ post) := by
  rw [List.map_append, List.map_cons, List.nodup_append, List.nodup_cons] at hk
  obtain ⟨h1, ⟨h2, h3⟩, h4⟩ := hk
  have hpre : ∀ x ∈ pre, x.k ≠ n.k := fun x hx => h4 x.k (List.mem_map.mpr ⟨x, hx, rfl⟩) n.k (.head _)
  have hpost : ∀ x ∈ post, x.k ≠ n.k := fun x hx e => h2 (e ▸ List.mem_map.mpr ⟨x, hx, rfl⟩)
  constructor
  · simp only [vfind, absE, List.map_append, List.map_cons, List.find?_append, List.find?_cons]
    rw [List.find?_eq_none.mpr (by
      intro y hy
      obtain ⟨x, hx, rfl⟩ := List.mem_map.mp hy
      simpa using hpre x hx)]
    simp
  · simp only [vrest, absE, List.map_append, List.map_cons, List.filter_append, List.filter_cons]
    rw [List.filter_eq_self.mpr (by
      intro y hy
      obtain ⟨x, hx, rfl⟩ := List.mem_map.mp hy
      simpa using hpre x hx), List.filter_eq_self.mpr (by
      intro y hy
      obtain ⟨x, hx, rfl⟩ := List.mem_map.mp hy
      simpa using hpost x hx)]
    simp
theorem keysL (l : List Node) : (absL l).map (·.1) = l.map Node.k := by simp [absL, Function.comp_def]
theorem keysE (l : List LEnt) : (absE l).map (·.1) = l.map LEnt.k := by simp [absE, Function.comp_def]
theorem splitE_of {l : List LEnt} {k : Int} (h : k ∈ l.map LEnt.k) : ∃ pre n post, l = pre ++ n :: post ∧ n.k = k := by
  obtain ⟨n, hn, e⟩ := List.mem_map.mp h
  obtain ⟨pre, post, e2⟩ := List.append_of_mem hn
  exact ⟨pre, n, post, e2, e⟩
/-- the same key in the cache and in the law's books -/
theorem Inv.both {w : World} {x : LawFix} {cst : CSt} {lst : LSt} {R : List (Addr × Obj)} {i : Nat} (I : Inv w x cst lst R i) {key : Int} (hk : key ∈ cst.line.map Node.k) :
    ∃ pre n post pre' kt vt t post', n.k = key ∧ cst.line = pre ++ n :: post ∧ lst.ents = pre' ++ ⟨n.k, kt, n.v, vt, n.f, t⟩ :: post' ∧ absL (pre ++ post) = absE (pre' ++ post') ∧ (∀ y ∈ pre', y.k ≠ n.k) := by
  obtain ⟨pre, n, post, h1, h2⟩ := split_of hk
  have hk' : key ∈ lst.ents.map LEnt.k := by rw [← keysE, ← I.vl, keysL]; exact hk
  obtain ⟨pre', e, post', h3, h4⟩ := splitE_of hk'
  have hkL := I.G.hkeys
  have hkE := I.P.hkeys
  rw [h1] at hkL
  rw [h3] at hkE
  obtain ⟨a1, a2⟩ := vfind_split pre post n hkL
  obtain ⟨b1, b2⟩ := vfind_splitE pre' post' e hkE
  have hv := I.vl
  rw [h1, h3] at hv
  rw [hv, h2, ← h4, b1] at a1
  rw [hv, h2, ← h4, b2] at a2
  have h5 := Option.some.inj a1
  simp only [Prod.mk.injEq] at h5
  obtain ⟨ek, kt, ev, vt, ef, t⟩ := e
  simp only at h4 h5 h3
  obtain ⟨_, e2, e3⟩ := h5
  subst h4 e2 e3
  subst h2
  refine ⟨pre, n, post, pre', kt, vt, t, post', rfl, h1, h3, a2.symm, ?_⟩
  intro y hy
  rw [List.map_append, List.map_cons, List.nodup_append] at hkE
  exact hkE.2.2 y.k (List.mem_map.mpr ⟨y, hy, rfl⟩) n.k (.head _)
theorem Inv.neither {w : World} {x : LawFix} {cst : CSt} {lst : LSt} {R : List (Addr × Obj)} {i : Nat} (I : Inv w x cst lst R i) {key : Int} (hk : key ∉ cst.line.map Node.k) : key ∉ lst.ents.map LEnt.k := by
  rw [← keysE, ← I.vl, keysL]; exact hk
theorem Inv.sizes {w : World} {x : LawFix} {cst : CSt} {lst : LSt} {R : List (Addr × Obj)} {i : Nat} (I : Inv w x cst lst R i) (hi : i ≤ 64) : cst.os.length + cst.line.length < 4000 ∧ lst.dues.length + lst.ents.length < 4000 ∧ lst.ents.length = cst.line.length ∧ lst.dues.length = cst.os.length := by
  have h1 := congrArg List.length I.vl
  have h2 := congrArg List.length I.vo
  have h3 := I.hi
  have h4 := I.hl
  have h5 := I.hz
  simp only [absL, absE, absO, List.length_map] at h1 h2
  lia
theorem nodupL {w : World} {x : LawFix} {cst : CSt} {lst : LSt} {R : List (Addr × Obj)} (G : Good w x.c cst (Ldyn x.lc lst ++ R)) : (Ads (LedL x cst lst R)).Nodup := by
  refine nodup_perm G.hnd fun y => ?_
  have e := ads_led x.c cst R
  simp only [Ads, LedL, LLed, List.map_cons] at e ⊢
  rw [e]
  simp only [Ldyn, List.map_append, List.cons_append, List.nil_append, List.map_cons, List.map_nil, List.count_cons, List.count_append, List.count_nil]; lia
theorem Inv.ca {w : World} {x : LawFix} {cst : CSt} {lst : LSt} {R : List (Addr × Obj)} {i : Nat} (I : Inv w x cst lst R i) : (x.c.ca, instObj 175 x.c.cd) ∈ R :=
  not_dyn (X := []) I.P I.G.hca (by simp [instObj]) (by simp [instObj])
theorem memLed {c : CFix} {st : CSt} {R : List (Addr × Obj)} {y : Addr × Obj} (h : y ∈ R) : y ∈ Led c st R := .tail _ (.tail _ (.tail _ (List.mem_append_right _ h)))
theorem LGood.touch {w : World} {c : LFix} {st : LSt} {K : List (Addr × Obj)} (G : LGood w c st K) {pre post : List LEnt} {e : LEnt} (hl : st.ents = pre ++ e :: post) (kt : Tok) (ln : Nat) : LGood w c { st with ents := { e with kt := kt } :: (pre ++ post), ln := ln } K := by
  have hp : (e :: (pre ++ post)).Perm st.ents := hl ▸ (List.perm_middle).symm
  have e1 : (({ e with kt := kt } : LEnt) :: (pre ++ post)).map lpr = (e :: (pre ++ post)).map lpr := rfl
  have e2 : (({ e with kt := kt } : LEnt) :: (pre ++ post)).map LEnt.k = (e :: (pre ++ post)).map LEnt.k := rfl
  refine ⟨G.hoh, ?_, ?_, ?_, G.hdue, G.hha, ?_⟩
  · rw [e1]; exact G.hkv.trans (hp.map lpr).symm
  · rw [e2]; exact ((hp.map LEnt.k).nodup_iff).mpr G.hkeys
  · intro z hz
    rcases List.mem_cons.mp hz with rfl | hz
    · exact G.htup e (hp.mem_iff.mp (.head _))
    · exact G.htup z (hp.mem_iff.mp (.tail _ hz))
  · have := hp.length_eq
    have := G.hroom
    simp only [List.length_cons] at *
    lia
/-- both sides have used the same key -/
theorem Inv.touch {w : World} {x : LawFix} {cst : CSt} {lst : LSt} {R : List (Addr × Obj)} {i : Nat} (I : Inv w x cst lst R i) {pre post : List Node} {n : Node} {pre' post' : List LEnt} {kt vt kt' : Tok} {t : Addr} (ln : Nat)
    (h1 : cst.line = pre ++ n :: post) (h3 : lst.ents = pre' ++ ⟨n.k, kt, n.v, vt, n.f, t⟩ :: post') (h4 : absL (pre ++ post) = absE (pre' ++ post')) :
    Inv w x { cst with line := n :: (pre ++ post) } { lst with ents := ⟨n.k, kt', n.v, vt, n.f, t⟩ :: (pre' ++ post'), ln := ln } R i := by
  have G1 := I.G.touch h1
  have P1 := I.P.touch h3 kt' ln
  have hp : (n :: (pre ++ post)).Perm cst.line := h1 ▸ (List.perm_middle).symm
  refine ⟨Good.swap (X := []) G1 I.P I.S.gS (fun y hy => hy) (nodup_swap (X := []) G1.hnd _), P1, I.S, ?_, I.vo, I.hz, I.hy, ?_, I.hi, fun z hz => I.hk z (hp.mem_iff.mp hz)⟩
  · show (n.k, n.v, n.f) :: absL (pre ++ post) = (n.k, n.v, n.f) :: absE (pre' ++ post')
    rw [h4]
  · have := hp.length_eq
    have := I.hl
    simp only [List.length_cons] at *
    lia
end
section
-- LCatch
open Lean Elab Tactic Meta PySem PySem.W PySem.Calls PyProof.Rows PyProof.V PySem.Spec
section
variable {prog : Program} {w : World} {A₀ : Around} {E : Value → Shared → Prop} {s' : Shared} {h₀ h : Heap} {outer : List Env} {L a e : Addr} {m : Str → Option Value} {name : Str} {scope : Scope} {cd : Value} {cl : List (Str × Addr)}
  {b₀ : Stmt} {suite : List Stmt} {pos np : Pos} {rest : List ExceptHandler} {Q : Flow → Shared → Prop} {news : List (Addr × Obj)} {K' : Frag}
  {p : Program} {loose : List Str} {mean : ExcName → Option Value} {mg mb : Str → Option Value} {x : Str} {X T' : String}
/-- a built-in exception caught by the frame's own clause, in a frame with cells -/
theorem caught_X0 (K : Below A₀ h₀ outer h₀) (F : Fr h₀ L h m) (hsm : h.UpToSlots s'.heap) (R : RaisedN h₀ (envX name scope L a cd cl :: outer) e (.type X) news s'.heap)
    (XK : K'.In h₀) (T : TopRead p loose mg mb h₀) (en : nsIn K' mainGlobals x = some none) (hv : bootBuiltins x = some (.type T'))
    (hexc : isSubtype (.type T') (.type "BaseException") = pure true) (hnt : isSubtype (.type ((Manifest.find? T').elim "type" fun y => y.metatype)) (.type "tuple") = pure false) (hsub : isSubtype (.type X) (.type T') = pure true)
    (k : ∀ h', Fr h₀ L h' m → News h₀ L h' news →
      wpAny (model prog w) ((A₀.deeper (envX name scope L a cd cl)).mark (some (.ref e))) (execs (b₀ :: suite) (envX name scope L a cd cl)) Q E { s' with heap := h' })
    (hn : x ≠ "__name__") (hk : scope.kind = .function) (hx : (envX name scope L a cd cl).kindOf x = some .globalImplicit) (hd : (x == ("__debug__" : Str)) = false)
    (hE : PassesOwnAt (model prog w) ((A₀.deeper (envX name scope L a cd cl)).mark (some (.ref e))) (A₀.deeper (envX name scope L a cd cl)) (envX name scope L a cd cl) E) :
    wpAny (model prog w) (A₀.deeper (envX name scope L a cd cl)) (noteFrame (.ref e) (envX name scope L a cd cl))
      (fun _ s₂ => wpAny (model prog w) (A₀.deeper (envX name scope L a cd cl)) (setFlight (.ref e) none) (fun _ s₃ =>
        wpAny (model prog w) (A₀.deeper (envX name scope L a cd cl)) (handleBy (.ref e) (envX name scope L a cd cl) (.ExceptHandler (some (.Name x np)) none (b₀ :: suite) pos :: rest)) Q E s₃) E s₂) E s' := by
  obtain ⟨B, a0, hB, hl, hfl⟩ := R
  have hL : B.get? L = none := by
    obtain ⟨_, ⟨L', _, hf, hn', _⟩, _⟩ := hfl.2.2.1
    obtain rfl : L = L' := Option.some.inj hf
    exact hn'
  refine wpAny_looks_onW (Around.frames_deeper K.stack) rfl hfl fun h₄ hheld₄ hsm₄ => ?_
  refine wpAny_landsW hheld₄ fun h₅ hheld hsm₅' => ?_
  have hsm₅ := hsm₄.trans hsm₅'
  have hheld' := flyingW_base hB hheld
  have F₅ := F.of_stays hheld'.1 (hsm.trans hsm₅)
  obtain ⟨ob, hob, hobc⟩ := hheld'.there
  refine wpAny_handleBy_builtin (X := X) (T := T') (b := true) hexc hnt hsub (nameX_B (s := { s' with heap := h₅ }) F₅ XK T en hv hn ⟨rfl, ⟨ob, hob, hobc⟩, ?_⟩ hk hx hd)
  refine lands_againW hheld fun h₆ hfl₆ hsm₆ => ?_
  have F₆ := F.of_stays (flyingW_base hB hfl₆).1 ((hsm.trans hsm₅).trans hsm₆)
  exact wpAny_passesOwnAt hE (k h₆ F₆ fun q hq => ⟨hfl₆.1 _ _ (hl q hq).1, (fun z => by have := (hl q hq).1; rw [z, hL] at this; cases this), (hl q hq).2⟩)
theorem gi_miss {A : Around} {s : Shared} {Q : Value → Shared → Prop} {d : Addr} {o : Obj} {kvs : List (Int × Value)} {k : Int} {t : Tok} (hh : A.handled = none) (N : News h₀ L s.heap news) (hp : (d, o) ∈ news) (hd : o.IsDictOf (intKind prog w) kvs) (lo : (d == sysModules) = false) (hl : valueAt kvs k = none)
    (h : ∀ h' e, Heap.NewExc s.heap h' e "KeyError" → E (.ref e) { s with heap := h', toks := s.toks + 1 }) : wpAny (model prog w) A (getItem (.ref d) (.int k t)) Q E s :=
  wpAny_getItem_missing_of (intKind_is prog w k t) lo hh (kda_dict N hp hd).mapOf hl h
theorem item_miss {A : Around} {s : Shared} {value slice : PySem.Expr} {Q : Value → Shared → Prop} {d : Addr} {o : Obj} {kvs : List (Int × Value)} {k : Int} {t : Tok} (hh : A.handled = none) (N : News h₀ L s.heap news) (hp : (d, o) ∈ news) (hd : o.IsDictOf (intKind prog w) kvs) (lo : (d == sysModules) = false) (hl : valueAt kvs k = none)
    (h : ∀ h' e, Heap.NewExc s.heap h' e "KeyError" → E (.ref e) { s with heap := h', toks := s.toks + 1 })
    (hs : subscripted slice false (.ref d) (.int k t) = operate [.ref d, .int k t] (getItem (.ref d) (.int k t)) := by with_unfolding_all rfl) : wpAny (model prog w) A (subscriptTail value slice (.ref d) (.int k t)) Q E s :=
  tail_any (kda_dict N hp hd).typeIs slot_dict_getitem.lookup (gi_miss hh N hp hd lo hl h) hs
end
end
section
-- LNext
open PySem PySem.W PySem.Calls PyProof.Rows
theorem Stat.sub {x : LawFix} {R R' : List (Addr × Obj)} (S : Stat x R) (h : ∀ y ∈ R, y ∈ R') : Stat x R' := by
  obtain ⟨a, b, c, d, e1⟩ := S.dfn
  obtain ⟨a2, b2, c2, d2, e2⟩ := S.ufn
  exact ⟨fun y hy => h _ (S.gS y hy), fun y hy => h _ (S.dS y hy), fun y hy => h _ (S.uS y hy), ⟨a, b, c, d, h _ e1⟩, ⟨a2, b2, c2, d2, h _ e2⟩, h _ S.mout, h _ S.mline, h _ S.mheld, h _ S.mdue, S.vout, S.vline, S.vheld, S.vdue⟩
theorem Good.swap1 {w : World} {x : LawFix} {cst : CSt} {lst : LSt} {K R X : List (Addr × Obj)} (G : Good w x.c cst (X ++ (Ldyn x.lc lst ++ R))) (P : LGood w x.lc lst K) (S : ∀ y ∈ x.c.S₀, y ∈ R) : Good w x.c cst (Ldyn x.lc lst ++ (X ++ R)) :=
  Good.swap G P S (fun y hy => hy) (nodup_swap G.hnd lst)
theorem nodupL1 {w : World} {x : LawFix} {cst : CSt} {lst : LSt} {K R X : List (Addr × Obj)} (G : Good w x.c cst (X ++ (Ldyn x.lc lst ++ R))) (P : LGood w x.lc lst K) (S : ∀ y ∈ x.c.S₀, y ∈ R) : (Ads (LLed x.lc lst (Led x.c cst (X ++ R)))).Nodup :=
  nodupL (Good.swap1 G P S)
theorem nodupLC {x : LawFix} {cst : CSt} {lst' : LSt} {R X' : List (Addr × Obj)} (nd : (Ads (LLed x.lc lst' (X' ++ Led x.c cst R))).Nodup) :
    (x.c.ol :: x.c.cd :: x.c.dc :: (cst.line.map Node.d ++ Ads (Ldyn x.lc lst' ++ (X' ++ R)))).Nodup := by
  refine nodup_perm nd fun y => ?_
  have e := ads_led x.c cst R
  simp only [Ads, LLed, List.map_cons, List.map_append] at e ⊢
  rw [e]
  simp only [Ldyn, List.map_append, List.cons_append, List.nil_append, List.map_cons, List.map_nil, List.count_cons, List.count_append, List.count_nil]; lia
theorem nd3L {c : LFix} {st : LSt} {R : List (Addr × Obj)} (h : (Ads (LLed c st R)).Nodup) : @Ne Nat c.la c.da ∧ @Ne Nat c.la c.ha ∧ @Ne Nat c.da c.ha ∧ OwnOff R [c.la, c.da, c.ha] := nd3 h
theorem Inv.next {w : World} {x : LawFix} {cst cst' : CSt} {lst lst' : LSt} {R R' X : List (Addr × Obj)} {i j : Nat} (I : Inv w x cst lst R i) (G : Good w x.c cst' (X ++ (Ldyn x.lc lst ++ R))) (P : LGood w x.lc lst' R') (hR : ∀ y ∈ X ++ R, y ∈ R')
    (nd : (x.c.ol :: x.c.cd :: x.c.dc :: (cst'.line.map Node.d ++ Ads (Ldyn x.lc lst' ++ R'))).Nodup) (vl : absL cst'.line = absE lst'.ents) (vo : absO cst'.os = absO lst'.dues) (hz : 1 ≤ cst'.size ∧ cst'.size ≤ 5) (hy : 0 ≤ cst'.stay ∧ cst'.stay ≤ cst'.size)
    (hl : (cst'.line.length : Int) ≤ cst'.size) (hi : cst'.os.length ≤ 8 * j) (hk : ∀ n ∈ cst'.line, 0 ≤ n.k ∧ n.k < 7) : Inv w x cst' lst' R' j :=
  ⟨Good.swap G I.P I.S.gS hR nd, P, I.S.sub fun y hy => hR y (List.mem_append_right _ hy), vl, vo, hz, hy, hl, hi, hk⟩
theorem goneAll_length (l : List (Int × Int × Bool)) : (goneAll l).length ≤ l.length := by
  have h : ∀ l : List (Int × Int × Bool), (l.map goneOf).flatten.length ≤ l.length := by
    intro l
    induction l with
    | nil => simp
    | cons e r ih =>
      obtain ⟨a, b, c⟩ := e
      simp only [List.map_cons, List.flatten_cons, List.length_append, List.length_cons]
      cases c <;> simp only [goneOf, if_true, if_false, Bool.false_eq_true, List.length_cons, List.length_nil] <;> lia
  exact Nat.le_trans (h l.reverse) (by simp)
/-- both sides have let the last ones go -/
theorem Inv.drop {w : World} {x : LawFix} {cst cst' : CSt} {lst lst' : LSt} {R X X' : List (Addr × Obj)} {i M : Nat} {z y : Int} (I : Inv w x cst lst R i) (hv : absS cst' = vdrop M { absS cst with size := z, stay := y }) (G : Good w x.c cst' (X ++ (Ldyn x.lc lst ++ R)))
    (he : absE lst'.ents = (absE lst.ents).take M) (ho : absO lst'.dues = absO lst.dues ++ goneAll ((absE lst.ents).drop M)) (P : LGood w x.lc lst' (X' ++ (X ++ R))) (nd : (Ads (LLed x.lc lst' (X' ++ Led x.c cst' (X ++ R)))).Nodup)
    (hz : 1 ≤ z ∧ z ≤ 5) (hy : 0 ≤ y ∧ y ≤ z) (hM : (M : Int) ≤ z) : Inv w x cst' lst' (X' ++ (X ++ R)) (i + 1) := by
  have h1 : absL cst'.line = (absL cst.line).take M := congrArg V.l hv
  have h2 : absO cst'.os = absO cst.os ++ goneAll ((absL cst.line).drop M) := congrArg V.o hv
  have h3 : cst'.size = z := congrArg V.size hv
  have h4 : cst'.stay = y := congrArg V.stay hv
  have l1 : cst'.line.length = min M cst.line.length := by have := congrArg List.length h1; simpa [absL] using this
  have l2 := congrArg List.length h2
  have l3 := goneAll_length ((absL cst.line).drop M)
  have l4 := I.hl
  have l5 := I.hz
  have l6 := I.hi
  simp only [absO, absL, List.length_append, List.length_map, List.length_drop] at l2 l3
  refine I.next G P (fun y hy => List.mem_append_right _ hy) (nodupLC nd) ?_ ?_ ?_ ?_ ?_ ?_ ?_
  · rw [h1, he, I.vl]
  · rw [h2, ho, I.vo, I.vl]
  · rw [h3]; exact hz
  · rw [h3, h4]; exact hy
  · rw [h3, l1]; lia
  · lia
  · intro n hn
    have hm : (n.k, n.v, n.f) ∈ absL cst'.line := List.mem_map.mpr ⟨n, hn, rfl⟩
    rw [h1] at hm
    obtain ⟨n', hn', e⟩ := List.mem_map.mp (List.mem_of_mem_take hm)
    have := I.hk n' hn'
    simp only [Prod.mk.injEq] at e
    lia
end
section
-- LDeed8
open PySem PySem.W PySem.Calls PyProof.Rows
theorem rules_LDeed80 : True := by
  k_with_none
  k_with "ne" => (refine neN ?_; (try dsimp only); first | assumption | (apply Ne.symm; assumption))
  k_with "tone" => (refine neN ?_; (try dsimp only); first | assumption | (apply Ne.symm; assumption))
  k_with "mem" => assumption
  k_with "subscriptTail" => (k_here; (with_reducible show wpAny _ _ (subscriptTail _ _ (Value.ref _) (Value.int _ _)) _ _ _); k_dflt (refine' kda_item (knd := PySem.intKind _ _) ?Nr ?mr ?dr (intKind_is _ _ _ _) ?vr ?_; (case Nr => k_asm); (case mr => k_mem); (case dr => assumption); (case vr => assumption)))
  k_with "getItem ref int" => (k_here; k_dflt (refine' gi_sym ?Nr ?mr ?dr ?vr ?_; (case Nr => k_asm); (case mr => k_mem); (case dr => assumption); (case vr => assumption); k_whole))
  k_with "call builtin:len" => (k_here; (with_reducible show wpAny _ _ (call (Value.builtin "len") [Value.ref _]) _ _ _); k_dflt (refine' kda_len (knd := PySem.intKind _ _) ?Nr ?mr ?dr ?lr ?zr ?_; (case Nr => k_asm); (case mr => k_mem); (case dr => assumption); (case lr => assumption); (case zr => first | assumption | omega); k_whole))
  k_with "compareOp In int ref" => (k_here; k_dflt (first
    | (refine' kda_in (knd := PySem.intKind _ _) ?Nr ?mr ?dr ?lr (intKind_is _ _ _ _) true ?br ?_; (case Nr => k_asm); (case mr => k_mem); (case dr => assumption); (case lr => assumption); (case br => exact Option.isSome_iff_exists.mpr ⟨_, by assumption⟩); k_whole)
    | (refine' kda_in (knd := PySem.intKind _ _) ?Nr ?mr ?dr ?lr (intKind_is _ _ _ _) false ?br ?_; (case Nr => k_asm); (case mr => k_mem); (case dr => assumption); (case lr => assumption); (case br => exact Option.isSome_eq_false_iff.mpr (Option.isNone_iff_eq_none.mpr (by assumption))); k_whole)))
  k_with "setItem ref int" => (k_here; k_dflt (refine' kda_set (knd := PySem.intKind _ _) ?Fr ?Nr ?Ur ?dr (intKind_is _ _ _ _) ?zr ?_; (case Fr => k_asm); (case Nr => k_asm); (case Ur => k_updF); (case dr => assumption); (case zr => assumption)); intro h'r o'r F'r N'r hd'r; (try dsimp only at N'r))
  k_with "getMethod ref" => (k_here; (with_reducible show wpAny _ _ (getMethod (Value.ref _) (Str.ofString "pop") _) _ _ _); k_dflt (refine' kob_method (knd := PySem.intKind _ _) PySem.F.slot_dict_pop PySem.F.type_dict_pop ?Nr ?mr ?dr ?_; (case Nr => k_asm); (case mr => k_mem); (case dr => assumption)))
  k_with "getMethod ref" => (k_here; (with_reducible show wpAny _ _ (getMethod (Value.ref _) (Str.ofString "get") _) _ _ _); k_dflt (refine' kdg_method (knd := PySem.intKind _ _) ?Nr ?mr ?dr ?_; (case Nr => k_asm); (case mr => k_mem); (case dr => assumption)))
  k_with "call builtin:dict.pop" => (k_here; (with_reducible show wpAny _ _ (call (Value.builtin "dict.pop") [Value.ref _, Value.int _ _]) _ _ _); k_dflt (refine' kob_pop (knd := PySem.intKind _ _) (more := []) ?Fr ?Nr ?Ur ?dr (intKind_is _ _ _ _) (.inl rfl) (by rfl) (PySem.F.args_dict_pop_2 _ _) ?lr ?zr ?_; (case Fr => k_asm); (case Nr => k_asm); (case Ur => k_updF); (case dr => assumption); (case lr => assumption); (case zr => assumption)); intro h'r o'r F'r N'r hd'r; (try dsimp only at N'r))
  k_with "call builtin:dict.get" => (k_here; (with_reducible show wpAny _ _ (call (Value.builtin "dict.get") [Value.ref _, Value.int _ _, _]) _ _ _); k_dflt (refine' kdg_get2 (knd := PySem.intKind _ _) ?Nr ?mr ?dr ?lr (intKind_is _ _ _ _) _ ?vr ?_; (case Nr => k_asm); (case mr => k_mem); (case dr => assumption); (case lr => assumption); (case vr => assumption)); (try dsimp only [Option.getD]))
  k_with "enter" => (refine' code_def ?k1r ?k2r ?k3r ?k4r ?k5r ?kAr ?kFr ?kKr ?k6r ?k7r ?k8r ?k9r ?kBr ?_ ?c2r ?c3r ?c4r ?c5r; (case kAr => exact rfl); (case kFr => exact rfl); (case kKr => first | exact rfl | assumption); (case k1r => k_asm); (case k2r => k_asm); (case k3r => k_asm); (case k4r => k_asm); (case k5r => k_asm); (case k6r => k_is); (case k7r => k_is); (case k8r => ktr_room); (case k9r => first | exact BindsTo.of_eq rfl | exact binds_K (by k_in) rfl (by k_is) rfl rfl rfl); (case c5r => decide); (case kBr => exact locs rfl); (case c2r => exact rfl); (case c3r => exact rfl); (case c4r => exact rfl); k_whole; intro g'r L'r h'r FG'r F'r N'r B'r X'r T'r; (try dsimp only); (try k_fold))
  k_with "callWith ref" => (k_here; k_dflt (refine' callWith_F ?k1r ?_; (case k1r => exact FnAt.of (by k_asm) (by k_mem)); k_whole))
  trivial
section
variable {w : World} {p : Program} {loose : List Str} {mean : ExcName → Option Value} {mg mb : Str → Option Value} {g : Heap} {x : LawFix} {fa : Addr} {s : Shared} {Q : Flow → Shared → Prop} {E : Value → Shared → Prop} {cst : CSt} {lst : LSt} {R : List (Addr × Obj)} {i : Nat} {m : Str → Option Value} {zt yt t1 t2 t3 t4 : Tok} {q key fresh : Int}
  (B : Below callerA g [] g) (X : (hd.heap_39 w.params).In g) (T : Top p loose mean mg mb g)
  (hG : GoneSpec w p loose mean mg mb x.c.ga x.c.ol x.c.S₀) (hU : UseSpec w p loose mean mg mb x.ua x.lc x.Su) (hD : DropSpec w p loose mean mg mb x.da x.lc x.Sd)
include B X T hG hU hD
set_option maxRecDepth 100000 in
set_option maxHeartbeats 2000000 in
theorem deed8 (F : Fr g x.L s.heap (deedMap x cst.size cst.stay zt yt 8 q key fresh t1 t2 t3 t4 m)) (N : News g x.L s.heap (LedC x cst lst R)) (I : Inv w x cst lst R i) :
  wpAny (model PySem.Challenge.rw_iy0004_01.row.prog w) (callerA.deeper (envOfC (Str.ofString "law") lawScope x.L fa (.ref 183))) (exec deedIf (envOfC (Str.ofString "law") lawScope x.L fa (.ref 183))) (DeedEnd w x g s R (i + 1) key) E s := by
  revert X; k_fill; intro X
  have es : lawScope = Scope.mk _ _ _ _ _ := rfl
  have eb : deedIf = Stmt.If _ _ _ _ := rfl
  rw [es, eb]
  clear es eb
  k_steps
  exact DeedEnd.intro F ⟨rfl, ⟨_, rfl⟩, ⟨_, rfl⟩, rfl, rfl, rfl⟩ rfl N (I.later (Nat.le_succ i)) (fun _ h => h)
end
end
section
-- LAdd2
open PySem PySem.W PySem.Calls PyProof.Rows
section
variable {w : World} {p : Program} {loose : List Str} {mean : ExcName → Option Value} {mg mb : Str → Option Value}
  {dp un : Nat} {gd : Option (List Code)} {cn : Str} {cs : Scope} {a : Addr} {ccd : Value} {cl : List (Str × Addr)} {outer : List Env} {A₀ : Around} {base h₀ : Heap} {L : Addr} {m : Str → Option Value} {s : Shared} {Q E : Value → Shared → Prop}
  (B : Below A₀ base outer h₀) (F : Fr h₀ L s.heap m) (X : (hd.heap_39 w.params).In h₀) (T : Top p loose mean mg mb h₀) (hk : cs.kind = .function) (hdp : dp + 7 < recursionLimit)
include B F X T hk hdp
variable {c : CFix} {st : CSt} {R : List (Addr × Obj)} {k v : Int} {tk0 tv0 : Tok}
theorem add_newT (N : News h₀ L s.heap (Led c st R)) (G : Good w c st R) (hG : GoneSpec w p loose mean mg mb c.ga c.ol c.S₀) (hs : 0 ≤ st.stay) (hz : (st.line.length : Int) ≤ st.size) (hk0 : k ∉ st.line.map Node.k) (hroom : st.os.length + st.line.length < 4096)
  (ret : ∀ (st' : CSt) (X : List (Addr × Obj)), absS st' = vadd k v true (absS st) → Good w c st' (X ++ R) → Back h₀ L m s Q .none (Led c st' (X ++ R))) :
  wpAny (model PySem.Challenge.rw_iy0004_01.row.prog w) (ktrTop dp un gd cn cs L a ccd cl outer) (call (.ref 87) [.ref c.ca, .int k tk0, .int v tv0, .ref c.ga]) Q E s :=
  add_new (fl := true) B F X T hk hdp N G hG hs hz hk0 hroom ret rfl (.inl ⟨rfl, rfl⟩)
theorem add_newF (N : News h₀ L s.heap (Led c st R)) (G : Good w c st R) (hG : GoneSpec w p loose mean mg mb c.ga c.ol c.S₀) (hs : 0 ≤ st.stay) (hz : (st.line.length : Int) ≤ st.size) (hk0 : k ∉ st.line.map Node.k) (hroom : st.os.length + st.line.length < 4096)
  (ret : ∀ (st' : CSt) (X : List (Addr × Obj)), absS st' = vadd k v false (absS st) → Good w c st' (X ++ R) → Back h₀ L m s Q .none (Led c st' (X ++ R))) :
  wpAny (model PySem.Challenge.rw_iy0004_01.row.prog w) (ktrTop dp un gd cn cs L a ccd cl outer) (call (.ref 87) [.ref c.ca, .int k tk0, .int v tv0, .none]) Q E s :=
  add_new (fl := false) B F X T hk hdp N G hG hs hz hk0 hroom ret rfl (.inl ⟨rfl, rfl⟩)
theorem add_oldT {pre post : List Node} {n : Node} (N : News h₀ L s.heap (Led c st R)) (G : Good w c st R) (hG : GoneSpec w p loose mean mg mb c.ga c.ol c.S₀) (hl : st.line = pre ++ n :: post) (hz : (st.line.length : Int) ≤ st.size) (hroom : st.os.length + st.line.length < 4096)
  (ret : ∀ (st' : CSt) (X : List (Addr × Obj)), absS st' = vadd n.k v true (absS st) → Good w c st' (X ++ R) → Back h₀ L m s Q .none (Led c st' (X ++ R))) :
  wpAny (model PySem.Challenge.rw_iy0004_01.row.prog w) (ktrTop dp un gd cn cs L a ccd cl outer) (call (.ref 87) [.ref c.ca, .int n.k tk0, .int v tv0, .ref c.ga]) Q E s :=
  add_old (fl := true) B F X T hk hdp N G hG hl hz hroom ret rfl (.inl ⟨rfl, rfl⟩)
theorem add_oldF {pre post : List Node} {n : Node} (N : News h₀ L s.heap (Led c st R)) (G : Good w c st R) (hG : GoneSpec w p loose mean mg mb c.ga c.ol c.S₀) (hl : st.line = pre ++ n :: post) (hz : (st.line.length : Int) ≤ st.size) (hroom : st.os.length + st.line.length < 4096)
  (ret : ∀ (st' : CSt) (X : List (Addr × Obj)), absS st' = vadd n.k v false (absS st) → Good w c st' (X ++ R) → Back h₀ L m s Q .none (Led c st' (X ++ R))) :
  wpAny (model PySem.Challenge.rw_iy0004_01.row.prog w) (ktrTop dp un gd cn cs L a ccd cl outer) (call (.ref 87) [.ref c.ca, .int n.k tk0, .int v tv0, .none]) Q E s :=
  add_old (fl := false) B F X T hk hdp N G hG hl hz hroom ret rfl (.inl ⟨rfl, rfl⟩)
end
end
section
-- LPut
open PySem PySem.W PySem.Calls PyProof.Rows
section
variable {α : Type} {t t1 l u h o c d : α} {P R : List α}
theorem mP1 : ∀ z, z ∈ l :: u :: h :: o :: c :: d :: (P ++ (t :: R)) → z ∈ t :: l :: u :: h :: o :: c :: d :: (P ++ R) := by
  intro z hz; simp only [List.mem_cons, List.mem_append] at *; grind
theorem mP2 : ∀ z, z ∈ l :: u :: h :: o :: c :: d :: (P ++ (t :: t1 :: R)) → z ∈ t :: t1 :: l :: u :: h :: o :: c :: d :: (P ++ R) := by
  intro z hz; simp only [List.mem_cons, List.mem_append] at *; grind
end
theorem ledP1 {x : LawFix} {cst : CSt} {lst : LSt} {R : List (Addr × Obj)} {t : Addr × Obj} : ∀ z, z ∈ LLed x.lc lst (Led x.c cst (t :: R)) → z ∈ t :: LLed x.lc lst (Led x.c cst R) := mP1
theorem ledP2 {x : LawFix} {cst : CSt} {lst : LSt} {R : List (Addr × Obj)} {t t1 : Addr × Obj} : ∀ z, z ∈ LLed x.lc lst (Led x.c cst (t :: t1 :: R)) → z ∈ t :: t1 :: LLed x.lc lst (Led x.c cst R) := mP2
noncomputable abbrev Over (t : Addr) (x : LawFix) (cst : CSt) (R : List (Addr × Obj)) : Prop :=
  @LT.lt Nat _ x.lc.la t ∧ @LT.lt Nat _ x.lc.da t ∧ @LT.lt Nat _ x.lc.ha t ∧ @LT.lt Nat _ x.c.ol t ∧ @LT.lt Nat _ x.c.cd t ∧ @LT.lt Nat _ x.c.dc t ∧ AllLt t (seg x.c.ga .none cst.line .none ++ R)
theorem Over.off {t : Addr} {x : LawFix} {cst : CSt} {lst : LSt} {R : List (Addr × Obj)} (l : Over t x cst R) : t ∉ Ads (LLed x.lc lst (Led x.c cst R)) := by
  intro hm
  simp only [Ads, LLed, Led, List.map_cons, List.mem_cons] at hm
  obtain ⟨l1, l2, l3, l4, l5, l6, l7⟩ := l
  rcases hm with h | h | h | h | h | h | h
  · exact absurd l1 (h ▸ Nat.lt_irrefl _)
  · exact absurd l2 (h ▸ Nat.lt_irrefl _)
  · exact absurd l3 (h ▸ Nat.lt_irrefl _)
  · exact absurd l4 (h ▸ Nat.lt_irrefl _)
  · exact absurd l5 (h ▸ Nat.lt_irrefl _)
  · exact absurd l6 (h ▸ Nat.lt_irrefl _)
  · obtain ⟨p, hp, e1⟩ := List.mem_map.mp h
    exact absurd (ktn_ltOf l7 p hp) (e1 ▸ Nat.lt_irrefl _)
theorem adsP (x : LawFix) (cst : CSt) (lst : LSt) (R : List (Addr × Obj)) : Ads (LLed x.lc lst (Led x.c cst R)) = x.lc.la :: x.lc.da :: x.lc.ha :: x.c.ol :: x.c.cd :: x.c.dc :: (cst.line.map Node.d ++ Ads R) := by
  have e := ads_led x.c cst R
  simp only [Ads, LLed, List.map_cons] at e ⊢
  rw [e]
theorem nodupP {x : LawFix} {cst : CSt} {lst lst' : LSt} {R : List (Addr × Obj)} {t : Addr} {o : Obj} (h : t ∉ Ads (LLed x.lc lst (Led x.c cst R))) (D : (Ads (LLed x.lc lst (Led x.c cst R))).Nodup) : (Ads (LLed x.lc lst' (Led x.c cst ((t, o) :: R)))).Nodup := by
  refine nodup_perm (List.nodup_cons.mpr ⟨h, D⟩) fun y => ?_
  rw [adsP, adsP]
  simp only [Ads, List.map_cons, List.count_cons, List.count_append]; lia
theorem Over.off1 {t t1 : Addr} {o : Obj} {x : LawFix} {cst : CSt} {lst : LSt} {R : List (Addr × Obj)} (h : t ∉ Ads (LLed x.lc lst (Led x.c cst R))) (h1 : @LT.lt Nat _ t1 t) : t ∉ Ads (LLed x.lc lst (Led x.c cst ((t1, o) :: R))) := by
  rw [adsP] at *
  simp only [Ads, List.map_cons, List.mem_cons, List.mem_append, not_or] at *
  have : t ≠ t1 := fun e => absurd h1 (e ▸ Nat.lt_irrefl _)
  grind
theorem LGood.more {w : World} {c : LFix} {s : LSt} {K K' : List (Addr × Obj)} (G : LGood w c s K) (h : ∀ y ∈ K, y ∈ K') : LGood w c s K' :=
  ⟨G.hoh, G.hkv, G.hkeys, fun e he => h _ (G.htup e he), fun u hu => h _ (G.hdue u hu), G.hha, G.hroom⟩
/-- a key the books have not -/
theorem LGood.ins {w : World} {c : LFix} {st : LSt} {K : List (Addr × Obj)} (G : LGood w c st K) {e : LEnt} {o' : Obj} {ln : Nat} (hk : e.k ∉ st.ents.map LEnt.k) (ho : o'.IsDictOf (intKind PySem.Challenge.rw_iy0004_01.row.prog w) (stored st.hkvs e.k (.ref e.t))) (ht : (e.t, e.obj) ∈ K)
    (hr : st.dues.length + st.ents.length < 4096) : LGood w c { st with ents := e :: st.ents, oh := o', hkvs := stored st.hkvs e.k (.ref e.t), ln := ln } K := by
  refine ⟨ho, ?_, ?_, ?_, G.hdue, G.hha, ?_⟩
  · rw [stored_new (lvalueAt_none G.hkv hk)]
    refine (List.perm_append_comm).trans ?_
    exact G.hkv.cons _
  · exact List.nodup_cons.mpr ⟨hk, G.hkeys⟩
  · intro z hz
    rcases List.mem_cons.mp hz with rfl | hz
    · exact ht
    · exact G.htup z hz
  · simp only [List.length_cons]; lia
theorem lstored_old {kvs : List (Int × Value)} {pre post : List LEnt} {e : LEnt} (h : kvs.Perm ((pre ++ e :: post).map lpr)) (hk : ((pre ++ e :: post).map LEnt.k).Nodup) (t' : Addr) : (stored kvs e.k (.ref t')).Perm ((pre ++ { e with t := t' } :: post).map lpr) := by
  have hin : (e.k, Value.ref e.t) ∈ kvs := h.mem_iff.mpr (by simp)
  have ha : kvs.any (fun kv => decide (kv.1 = e.k)) = true := List.any_eq_true.mpr ⟨_, hin, by simp⟩
  unfold stored
  rw [if_pos ha]
  refine (h.map _).trans ?_
  rw [List.map_append, List.map_cons, List.nodup_append, List.nodup_cons] at hk
  obtain ⟨h1, ⟨h2, h3⟩, h4⟩ := hk
  have e1 : ∀ l : List LEnt, (∀ y ∈ l, y.k ≠ e.k) → (l.map lpr).map (fun kv => if kv.1 = e.k then (kv.1, Value.ref t') else kv) = l.map lpr := by
    intro l hl
    rw [List.map_map]
    refine List.map_congr_left fun y hy => ?_
    simp [hl y hy]
  simp only [List.map_append, List.map_cons]
  rw [e1 pre fun y hy => h4 y.k (List.mem_map.mpr ⟨y, hy, rfl⟩) e.k (.head _), e1 post fun y hy e => h2 (e ▸ List.mem_map.mpr ⟨y, hy, rfl⟩)]
  simp
/-- a key the books have -/
theorem LGood.put {w : World} {c : LFix} {st : LSt} {K K' : List (Addr × Obj)} (G : LGood w c st K) {pre post : List LEnt} {e e' : LEnt} {o' : Obj} {dn : Nat} {Y : List Tup} (hl : st.ents = pre ++ e :: post) (hk : e'.k = e.k) (ho : o'.IsDictOf (intKind PySem.Challenge.rw_iy0004_01.row.prog w) (stored st.hkvs e.k (.ref e'.t)))
    (hK : ∀ y ∈ K, y ∈ K') (ht : (e'.t, e'.obj) ∈ K') (hY : ∀ u ∈ Y, (u.t, u.obj) ∈ K')
    (hr : st.dues.length + Y.length + st.ents.length ≤ 4096) : LGood w c { st with ents := pre ++ e' :: post, oh := o', hkvs := stored st.hkvs e.k (.ref e'.t), dues := st.dues ++ Y, dn := dn } K' := by
  have hkv := G.hkv
  have hkeys := G.hkeys
  rw [hl] at hkv hkeys
  refine ⟨ho, ?_, ?_, ?_, ?_, G.hha, ?_⟩
  · have h1 := lstored_old hkv hkeys e'.t
    simp only [List.map_append, List.map_cons, lpr] at h1 ⊢
    rw [hk]
    exact h1
  · simp only [List.map_append, List.map_cons] at hkeys ⊢
    rw [hk]
    exact hkeys
  · intro z hz
    rcases List.mem_append.mp hz with hz | hz
    · exact hK _ (G.htup z (by rw [hl]; exact List.mem_append_left _ hz))
    · rcases List.mem_cons.mp hz with rfl | hz
      · exact ht
      · exact hK _ (G.htup z (by rw [hl]; exact List.mem_append_right _ (.tail _ hz)))
  · intro u hu
    rcases List.mem_append.mp hu with hu | hu
    · exact hK _ (G.hdue u hu)
    · exact hY u hu
  · rw [hl] at hr
    simp only [List.length_append, List.length_cons] at hr ⊢
    lia
end
section
-- LAdd3
open PySem PySem.W PySem.Calls PyProof.Rows
theorem mem_absL {l : List Node} {n : Node} (h : n ∈ l) : (n.k, n.v, n.f) ∈ absL l := List.mem_map.mpr ⟨n, h, rfl⟩
theorem keys_bound {l : List Node} {es : List (Int × Int × Bool)} (h : absL l = es) (hb : ∀ e ∈ es, 0 ≤ e.1 ∧ e.1 < 7) : ∀ n ∈ l, 0 ≤ n.k ∧ n.k < 7 := fun n hn => hb _ (h ▸ mem_absL hn)
theorem bound_absL {l : List Node} (h : ∀ n ∈ l, 0 ≤ n.k ∧ n.k < 7) : ∀ e ∈ absL l, 0 ≤ e.1 ∧ e.1 < 7 := by
  intro e he
  obtain ⟨n, hn, rfl⟩ := List.mem_map.mp he
  exact h n hn
theorem Inv.addNew {w : World} {x : LawFix} {cst cst' : CSt} {lst lst' : LSt} {R R' X : List (Addr × Obj)} {i : Nat} {k v : Int} {f : Bool} (I : Inv w x cst lst R i) (hk : k ∉ cst.line.map Node.k) (h07 : 0 ≤ k ∧ k < 7) (hv : absS cst' = vadd k v f (absS cst)) (G : Good w x.c cst' (X ++ (Ldyn x.lc lst ++ R)))
    (hc : (¬ ((cst.line.length : Int) + 1 > cst.size) ∧ absE lst'.ents = (k, v, f) :: absE lst.ents ∧ absO lst'.dues = absO lst.dues) ∨
      ((cst.line.length : Int) + 1 > cst.size ∧ absE lst'.ents = ((k, v, f) :: absE lst.ents).take cst.stay.toNat ∧ absO lst'.dues = absO lst.dues ++ goneAll (((k, v, f) :: absE lst.ents).drop cst.stay.toNat)))
    (P : LGood w x.lc lst' R') (hR : ∀ y ∈ X ++ R, y ∈ R') (nd : (x.c.ol :: x.c.cd :: x.c.dc :: (cst'.line.map Node.d ++ Ads (Ldyn x.lc lst' ++ R'))).Nodup) : Inv w x cst' lst' R' (i + 1) := by
  have l4 := I.hl
  have l5 := I.hz
  have l6 := I.hi
  have l7 := I.hy
  have hb : ∀ e ∈ (k, v, f) :: absL cst.line, 0 ≤ e.1 ∧ e.1 < 7 := by
    intro e he
    rcases List.mem_cons.mp he with rfl | he
    · exact h07
    · exact bound_absL I.hk e he
  rw [vadd_new hk] at hv
  rcases hc with ⟨c1, c2, c3⟩ | ⟨c1, c2, c3⟩
  · rw [if_neg c1] at hv
    have h1 : absL cst'.line = (k, v, f) :: absL cst.line := congrArg V.l hv
    have h2 : absO cst'.os = absO cst.os := congrArg V.o hv
    have h3 : cst'.size = cst.size := congrArg V.size hv
    have h4 : cst'.stay = cst.stay := congrArg V.stay hv
    have l1 := congrArg List.length h1
    have l2 := congrArg List.length h2
    simp only [absL, absO, List.length_map, List.length_cons] at l1 l2
    refine I.next G P hR nd ?_ ?_ ?_ ?_ ?_ ?_ (keys_bound h1 hb)
    · rw [h1, c2, I.vl]
    · rw [h2, c3, I.vo]
    · rw [h3]; exact l5
    · rw [h3, h4]; exact l7
    · rw [h3, l1]; push_cast; lia
    · lia
  · rw [if_pos c1] at hv
    have h1 : absL cst'.line = ((k, v, f) :: absL cst.line).take cst.stay.toNat := congrArg V.l hv
    have h2 : absO cst'.os = absO cst.os ++ goneAll (((k, v, f) :: absL cst.line).drop cst.stay.toNat) := congrArg V.o hv
    have h3 : cst'.size = cst.size := congrArg V.size hv
    have h4 : cst'.stay = cst.stay := congrArg V.stay hv
    have l1 : cst'.line.length = min cst.stay.toNat (cst.line.length + 1) := by have := congrArg List.length h1; simpa [absL] using this
    have l2 := congrArg List.length h2
    have l3 := goneAll_length (((k, v, f) :: absL cst.line).drop cst.stay.toNat)
    simp only [absO, absL, List.length_append, List.length_map, List.length_drop, List.length_cons] at l2 l3
    refine I.next G P hR nd ?_ ?_ ?_ ?_ ?_ ?_ (keys_bound h1 fun e he => hb e (List.mem_of_mem_take he))
    · rw [h1, c2, I.vl]
    · rw [h2, c3, I.vo, I.vl]
    · rw [h3]; exact l5
    · rw [h3, h4]; exact l7
    · rw [h3, l1]; lia
    · lia
theorem Inv.addOld {w : World} {x : LawFix} {cst cst' : CSt} {lst lst' : LSt} {R R' X : List (Addr × Obj)} {i : Nat} {v : Int} {f : Bool} {pre post : List Node} {n : Node} {es : List (Int × Int × Bool)} (I : Inv w x cst lst R i) (hl : cst.line = pre ++ n :: post) (h4 : absL (pre ++ post) = es) (hv : absS cst' = vadd n.k v f (absS cst)) (G : Good w x.c cst' (X ++ (Ldyn x.lc lst ++ R)))
    (c2 : absE lst'.ents = (n.k, v, f) :: es) (c3 : absO lst'.dues = absO lst.dues ++ goneOf (n.k, n.v, n.f))
    (P : LGood w x.lc lst' R') (hR : ∀ y ∈ X ++ R, y ∈ R') (nd : (x.c.ol :: x.c.cd :: x.c.dc :: (cst'.line.map Node.d ++ Ads (Ldyn x.lc lst' ++ R'))).Nodup) : Inv w x cst' lst' R' (i + 1) := by
  have l4 := I.hl
  have l5 := I.hz
  have l6 := I.hi
  have l7 := I.hy
  have hkn : n ∈ cst.line := by rw [hl]; exact List.mem_append_right _ (.head _)
  have hkeys := I.G.hkeys
  have hb : ∀ e ∈ (n.k, v, f) :: absL (pre ++ post), 0 ≤ e.1 ∧ e.1 < 7 := by
    intro e he
    rcases List.mem_cons.mp he with rfl | he
    · exact I.hk n hkn
    · refine bound_absL (fun n' hn' => I.hk n' ?_) e he
      rw [hl]
      rcases List.mem_append.mp hn' with h | h
      · exact List.mem_append_left _ h
      · exact List.mem_append_right _ (.tail _ h)
  have hlen : cst.line.length = (pre ++ post).length + 1 := by rw [hl]; simp; lia
  rw [hl] at hkeys
  obtain ⟨a1, a2⟩ := vfind_split pre post n hkeys
  unfold vadd at hv
  rw [show (absS cst).l = absL (pre ++ n :: post) from congrArg absL hl, a1] at hv
  simp only [a2] at hv
  have h1 : absL cst'.line = (n.k, v, f) :: absL (pre ++ post) := congrArg V.l hv
  have h2 : absO cst'.os = absO cst.os ++ goneOf (n.k, n.v, n.f) := congrArg V.o hv
  have h3 : cst'.size = cst.size := congrArg V.size hv
  have h4' : cst'.stay = cst.stay := congrArg V.stay hv
  have l1 := congrArg List.length h1
  have l2 := congrArg List.length h2
  have l3 : (goneOf (n.k, n.v, n.f)).length ≤ 1 := by unfold goneOf; split <;> simp
  simp only [absL, absO, List.length_map, List.length_cons, List.length_append] at l1 l2 hlen
  refine I.next G P hR nd ?_ ?_ ?_ ?_ ?_ ?_ (keys_bound h1 hb)
  · rw [h1, c2, h4]
  · rw [h2, c3, I.vo]
  · rw [h3]; exact l5
  · rw [h3, h4']; exact l7
  · rw [h3, l1]; push_cast; lia
  · lia
theorem LGood.put0 {w : World} {c : LFix} {st : LSt} {K K' : List (Addr × Obj)} (G : LGood w c st K) {pre post : List LEnt} {e e' : LEnt} {o' : Obj} (hl : st.ents = pre ++ e :: post) (hk : e'.k = e.k) (ho : o'.IsDictOf (intKind PySem.Challenge.rw_iy0004_01.row.prog w) (stored st.hkvs e.k (.ref e'.t)))
    (hK : ∀ y ∈ K, y ∈ K') (ht : (e'.t, e'.obj) ∈ K') : LGood w c { st with ents := pre ++ e' :: post, oh := o', hkvs := stored st.hkvs e.k (.ref e'.t) } K' := by
  have h := G.put (Y := []) (dn := st.dn) hl hk ho hK ht (fun u hu => absurd hu List.not_mem_nil) (by have := G.hroom; simpa using this)
  simpa only [List.append_nil] using h
theorem ndL {x : LawFix} {cst : CSt} {lst lst' : LSt} {R : List (Addr × Obj)} (D : (Ads (LLed x.lc lst (Led x.c cst R))).Nodup) : (x.c.ol :: x.c.cd :: x.c.dc :: (cst.line.map Node.d ++ Ads (Ldyn x.lc lst' ++ R))).Nodup :=
  nodupLC (X' := []) (lst' := lst') D
theorem vadd_size (k v : Int) (f : Bool) (a : V) : (vadd k v f a).size = a.size ∧ (vadd k v f a).stay = a.stay := by
  unfold vadd
  split
  · exact ⟨rfl, rfl⟩
  · dsimp only
    split <;> exact ⟨rfl, rfl⟩
theorem size_add {cst cst' : CSt} {k v : Int} {f : Bool} (h : absS cst' = vadd k v f (absS cst)) : cst'.size = cst.size := (congrArg V.size h).trans (vadd_size k v f (absS cst)).1
theorem stay_add {cst cst' : CSt} {k v : Int} {f : Bool} (h : absS cst' = vadd k v f (absS cst)) : cst'.stay = cst.stay := (congrArg V.stay h).trans (vadd_size k v f (absS cst)).2
end
section
-- LDeed4
open PySem PySem.W PySem.Calls PyProof.Rows
theorem rules_LDeed40 : True := by
  k_with_none
  k_with "ne" => (refine neN ?_; (try dsimp only); first | assumption | (apply Ne.symm; assumption))
  k_with "tone" => (refine neN ?_; (try dsimp only); first | assumption | (apply Ne.symm; assumption))
  k_with "exec Try" => ((with_reducible show wpAny _ _ (exec (Stmt.Try _ (_ :: _) _ [] _) _) _ _ _); refine wpAny_Try_except ?_)
  k_with "exec Try cons cons nil nil" => ((with_reducible show wpAny _ _ (exec (Stmt.Try _ (_ :: _) _ [] _) _) _ _ _); refine wpAny_Try_except ?_)
  k_with "mem" => assumption
  k_with "subscriptTail" => (k_here; (with_reducible show wpAny _ _ (subscriptTail _ _ (Value.ref _) (Value.int _ _)) _ _ _); k_dflt (refine' kda_item (knd := PySem.intKind _ _) ?Nr ?mr ?dr (intKind_is _ _ _ _) ?vr ?_; (case Nr => k_asm); (case mr => k_mem); (case dr => assumption); (case vr => assumption)))
  k_with "getItem ref int" => (k_here; k_dflt (refine' gi_sym ?Nr ?mr ?dr ?vr ?_; (case Nr => k_asm); (case mr => k_mem); (case dr => assumption); (case vr => assumption); k_whole))
  k_with "call builtin:len" => (k_here; (with_reducible show wpAny _ _ (call (Value.builtin "len") [Value.ref _]) _ _ _); k_dflt (refine' kda_len (knd := PySem.intKind _ _) ?Nr ?mr ?dr ?lr ?zr ?_; (case Nr => k_asm); (case mr => k_mem); (case dr => assumption); (case lr => assumption); (case zr => first | assumption | lia); k_whole))
  k_with "compareOp In int ref" => (k_here; k_dflt (first
    | (refine' kda_in (knd := PySem.intKind _ _) ?Nr ?mr ?dr ?lr (intKind_is _ _ _ _) true ?br ?_; (case Nr => k_asm); (case mr => k_mem); (case dr => assumption); (case lr => assumption); (case br => exact Option.isSome_iff_exists.mpr ⟨_, by assumption⟩); k_whole)
    | (refine' kda_in (knd := PySem.intKind _ _) ?Nr ?mr ?dr ?lr (intKind_is _ _ _ _) false ?br ?_; (case Nr => k_asm); (case mr => k_mem); (case dr => assumption); (case lr => assumption); (case br => exact Option.isSome_eq_false_iff.mpr (Option.isNone_iff_eq_none.mpr (by assumption))); k_whole)))
  k_with "setItem ref int" => (k_here; k_dflt (refine' kda_set (knd := PySem.intKind _ _) ?Fr ?Nr ?Ur ?dr (intKind_is _ _ _ _) ?zr ?_; (case Fr => k_asm); (case Nr => k_asm); (case Ur => k_updF); (case dr => assumption); (case zr => assumption)); intro h'r o'r F'r N'r hd'r; (try dsimp only at N'r))
  k_with "getMethod ref" => (k_here; (with_reducible show wpAny _ _ (getMethod (Value.ref _) (Str.ofString "pop") _) _ _ _); k_dflt (refine' kob_method (knd := PySem.intKind _ _) PySem.F.slot_dict_pop PySem.F.type_dict_pop ?Nr ?mr ?dr ?_; (case Nr => k_asm); (case mr => k_mem); (case dr => assumption)))
  k_with "getMethod ref" => (k_here; (with_reducible show wpAny _ _ (getMethod (Value.ref _) (Str.ofString "get") _) _ _ _); k_dflt (refine' kdg_method (knd := PySem.intKind _ _) ?Nr ?mr ?dr ?_; (case Nr => k_asm); (case mr => k_mem); (case dr => assumption)))
  k_with "call builtin:dict.pop" => (k_here; (with_reducible show wpAny _ _ (call (Value.builtin "dict.pop") [Value.ref _, Value.int _ _]) _ _ _); k_dflt (refine' kob_pop (knd := PySem.intKind _ _) (more := []) ?Fr ?Nr ?Ur ?dr (intKind_is _ _ _ _) (.inl rfl) (by rfl) (PySem.F.args_dict_pop_2 _ _) ?lr ?zr ?_; (case Fr => k_asm); (case Nr => k_asm); (case Ur => k_updF); (case dr => assumption); (case lr => assumption); (case zr => assumption)); intro h'r o'r F'r N'r hd'r; (try dsimp only at N'r))
  k_with "call builtin:dict.get" => (k_here; (with_reducible show wpAny _ _ (call (Value.builtin "dict.get") [Value.ref _, Value.int _ _, _]) _ _ _); k_dflt (refine' kdg_get2 (knd := PySem.intKind _ _) ?Nr ?mr ?dr ?lr (intKind_is _ _ _ _) _ ?vr ?_; (case Nr => k_asm); (case mr => k_mem); (case dr => assumption); (case lr => assumption); (case vr => assumption)); (try dsimp only [Option.getD]))
  k_with "enter" => (refine' code_def ?k1r ?k2r ?k3r ?k4r ?k5r ?kAr ?kFr ?kKr ?k6r ?k7r ?k8r ?k9r ?kBr ?_ ?c2r ?c3r ?c4r ?c5r; (case kAr => exact rfl); (case kFr => exact rfl); (case kKr => first | exact rfl | assumption); (case k1r => k_asm); (case k2r => k_asm); (case k3r => k_asm); (case k4r => k_asm); (case k5r => k_asm); (case k6r => k_is); (case k7r => k_is); (case k8r => ktr_room); (case k9r => first | exact BindsTo.of_eq rfl | exact binds_K (by k_in) rfl (by k_is) rfl rfl rfl); (case c5r => decide); (case kBr => exact locs rfl); (case c2r => exact rfl); (case c3r => exact rfl); (case c4r => exact rfl); k_whole; intro g'r L'r h'r FG'r F'r N'r B'r X'r T'r; (try dsimp only); (try k_fold))
  k_with "callWith ref" => (k_here; k_dflt (refine' callWith_F ?k1r ?_; (case k1r => exact FnAt.of (by k_asm) (by k_mem)); k_whole))
  trivial
section
variable {w : World} {p : Program} {loose : List Str} {mean : ExcName → Option Value} {mg mb : Str → Option Value} {g : Heap} {x : LawFix} {fa : Addr} {s : Shared} {Q : Flow → Shared → Prop} {E : Value → Shared → Prop} {cst : CSt} {lst : LSt} {R : List (Addr × Obj)} {i : Nat} {m : Str → Option Value} {zt yt t1 t2 t3 t4 : Tok} {q key fresh : Int}
  (B : Below callerA g [] g) (X : (hd.heap_39 w.params).In g) (T : Top p loose mean mg mb g)
  (hG : GoneSpec w p loose mean mg mb x.c.ga x.c.ol x.c.S₀) (hU : UseSpec w p loose mean mg mb x.ua x.lc x.Su) (hD : DropSpec w p loose mean mg mb x.da x.lc x.Sd)
include B X T hG hU hD
theorem rules_LDeed41 : True := by
  k_with "mem" => exact List.mem_append_right _ (by assumption)
  k_with "call ref" => (k_here; (with_reducible show wpAny _ _ (call (Value.ref 72) _ _) _ _ _); (rename Inv _ _ _ _ _ _ => I9r); (rename News _ _ _ _ => N9r); k_dflt (refine' gi_G ?g1r ?g2r ?g3r ?g4r rfl ?g6r (kst_newsOf N9r ledLC) (Inv.G I9r) ?g8r ?_; (case g1r => k_asm); (case g2r => k_asm); (case g3r => k_asm); (case g4r => k_asm); (case g6r => ktr_room); (case g8r => assumption)); intro h9r tk9r F9r N8r; (have N7r := kst_newsOf N8r ledCL); clear N9r N8r; (try dsimp only); (try k_fold))
  k_with "call ref" => (k_here; (rename UseSpec _ _ _ _ _ _ _ _ _ => hU9r); (rename Stat _ _ => S9r); k_dflt (refine' hU9r _ _ _ _ _ _ _ _ _ _ _ _ _ _ _ _ _ _ _ _ _ _ _ _ ?p1r ?p2r ?p3r ?p4r ?p5r ?pkr ?p6r ?p7r ?p8r ?p9r ?per ?par ?pbr ?_; (case p1r => k_asm); (case p2r => k_asm); (case p3r => k_asm); (case p4r => assumption); (case p5r => k_asm); (case pkr => rfl); (case p6r => ktr_room); (case p7r => exact fun y hy => memLed (S9r.uS y hy)); (case p8r => assumption); (case p9r => assumption); (case per => rfl); (case par => assumption); (case pbr => assumption)); intro h9r tk9r F9r N9r; (try dsimp only); (try k_fold))
  trivial
set_option maxRecDepth 100000 in
set_option maxHeartbeats 2000000 in
theorem deed4_in (hi : i ≤ 64) (F : Fr g x.L s.heap (deedMap x cst.size cst.stay zt yt 4 q key fresh t1 t2 t3 t4 m)) (N : News g x.L s.heap (LedC x cst lst R)) (I : Inv w x cst lst R i) (hkey : key ∈ cst.line.map Node.k) :
  wpAny (model PySem.Challenge.rw_iy0004_01.row.prog w) (callerA.deeper (envOfC (Str.ofString "law") lawScope x.L fa (.ref 183))) (exec deedIf (envOfC (Str.ofString "law") lawScope x.L fa (.ref 183))) (DeedEnd w x g s R (i + 1) key) E s := by
  revert X; k_fill; intro X
  have es : lawScope = Scope.mk _ _ _ _ _ := rfl
  have eb : deedIf = Stmt.If _ _ _ _ := rfl
  rw [es, eb]
  clear es eb
  obtain ⟨pre, n, post, pre', kt, vt, t, post', rfl, h1, h3, h4, h5⟩ := I.both hkey
  have S := I.S
  have hsz := I.sizes hi
  have hel : lst.ents.length ≤ 4096 := by lia
  have hv : valueAt lst.hkvs n.k = some (Value.ref t) := I.P.val (e := ⟨n.k, kt, n.v, vt, n.f, t⟩) (by rw [h3]; simp)
  have htup : (t, tup2 (.int n.v vt) (.bool n.f)) ∈ R := I.P.htup ⟨n.k, kt, n.v, vt, n.f, t⟩ (by rw [h3]; simp)
  have hoh := I.P.hoh
  have hha := I.P.hha
  have mheld := I.S.mheld
  have vheld := I.S.vheld
  have hca := I.ca
  obtain ⟨ua1, ua2, ua3, ua4, ufn⟩ := I.S.ufn
  have hn1 := nodupL (I.G.touch h1)
  have N1 := kst_newsOf N ledCL
  clear N
  k_steps
  · exfalso; lia
  (rename Inv _ _ _ _ _ _ => I)
  exact DeedEnd.intro (by assumption) ⟨rfl, ⟨_, rfl⟩, ⟨_, rfl⟩, rfl, rfl, rfl⟩ rfl (kst_newsOf (by assumption) ledLC) ((I.touch _ h1 h3 h4).later (Nat.le_succ i)) (fun _ h => h)
end
end
section
-- LDeed4o
open PySem PySem.W PySem.Calls PyProof.Rows
theorem rules_LDeed4o0 : True := by
  k_with_none
  k_with "ne" => (refine neN ?_; (try dsimp only); first | assumption | (apply Ne.symm; assumption))
  k_with "tone" => (refine neN ?_; (try dsimp only); first | assumption | (apply Ne.symm; assumption))
  k_with "mem" => assumption
  k_with "subscriptTail" => (k_here; (with_reducible show wpAny _ _ (subscriptTail _ _ (Value.ref _) (Value.int _ _)) _ _ _); k_dflt (refine' kda_item (knd := PySem.intKind _ _) ?Nr ?mr ?dr (intKind_is _ _ _ _) ?vr ?_; (case Nr => k_asm); (case mr => k_mem); (case dr => assumption); (case vr => assumption)))
  k_with "getItem ref int" => (k_here; k_dflt (refine' gi_sym ?Nr ?mr ?dr ?vr ?_; (case Nr => k_asm); (case mr => k_mem); (case dr => assumption); (case vr => assumption); k_whole))
  k_with "call builtin:len" => (k_here; (with_reducible show wpAny _ _ (call (Value.builtin "len") [Value.ref _]) _ _ _); k_dflt (refine' kda_len (knd := PySem.intKind _ _) ?Nr ?mr ?dr ?lr ?zr ?_; (case Nr => k_asm); (case mr => k_mem); (case dr => assumption); (case lr => assumption); (case zr => first | assumption | omega); k_whole))
  k_with "compareOp In int ref" => (k_here; k_dflt (first
    | (refine' kda_in (knd := PySem.intKind _ _) ?Nr ?mr ?dr ?lr (intKind_is _ _ _ _) true ?br ?_; (case Nr => k_asm); (case mr => k_mem); (case dr => assumption); (case lr => assumption); (case br => exact Option.isSome_iff_exists.mpr ⟨_, by assumption⟩); k_whole)
    | (refine' kda_in (knd := PySem.intKind _ _) ?Nr ?mr ?dr ?lr (intKind_is _ _ _ _) false ?br ?_; (case Nr => k_asm); (case mr => k_mem); (case dr => assumption); (case lr => assumption); (case br => exact Option.isSome_eq_false_iff.mpr (Option.isNone_iff_eq_none.mpr (by assumption))); k_whole)))
  k_with "setItem ref int" => (k_here; k_dflt (refine' kda_set (knd := PySem.intKind _ _) ?Fr ?Nr ?Ur ?dr (intKind_is _ _ _ _) ?zr ?_; (case Fr => k_asm); (case Nr => k_asm); (case Ur => k_updF); (case dr => assumption); (case zr => assumption)); intro h'r o'r F'r N'r hd'r; (try dsimp only at N'r))
  k_with "getMethod ref" => (k_here; (with_reducible show wpAny _ _ (getMethod (Value.ref _) (Str.ofString "pop") _) _ _ _); k_dflt (refine' kob_method (knd := PySem.intKind _ _) PySem.F.slot_dict_pop PySem.F.type_dict_pop ?Nr ?mr ?dr ?_; (case Nr => k_asm); (case mr => k_mem); (case dr => assumption)))
  k_with "getMethod ref" => (k_here; (with_reducible show wpAny _ _ (getMethod (Value.ref _) (Str.ofString "get") _) _ _ _); k_dflt (refine' kdg_method (knd := PySem.intKind _ _) ?Nr ?mr ?dr ?_; (case Nr => k_asm); (case mr => k_mem); (case dr => assumption)))
  k_with "call builtin:dict.pop" => (k_here; (with_reducible show wpAny _ _ (call (Value.builtin "dict.pop") [Value.ref _, Value.int _ _]) _ _ _); k_dflt (refine' kob_pop (knd := PySem.intKind _ _) (more := []) ?Fr ?Nr ?Ur ?dr (intKind_is _ _ _ _) (.inl rfl) (by rfl) (PySem.F.args_dict_pop_2 _ _) ?lr ?zr ?_; (case Fr => k_asm); (case Nr => k_asm); (case Ur => k_updF); (case dr => assumption); (case lr => assumption); (case zr => assumption)); intro h'r o'r F'r N'r hd'r; (try dsimp only at N'r))
  k_with "call builtin:dict.get" => (k_here; (with_reducible show wpAny _ _ (call (Value.builtin "dict.get") [Value.ref _, Value.int _ _, _]) _ _ _); k_dflt (refine' kdg_get2 (knd := PySem.intKind _ _) ?Nr ?mr ?dr ?lr (intKind_is _ _ _ _) _ ?vr ?_; (case Nr => k_asm); (case mr => k_mem); (case dr => assumption); (case lr => assumption); (case vr => assumption)); (try dsimp only [Option.getD]))
  k_with "enter" => (refine' code_def ?k1r ?k2r ?k3r ?k4r ?k5r ?kAr ?kFr ?kKr ?k6r ?k7r ?k8r ?k9r ?kBr ?_ ?c2r ?c3r ?c4r ?c5r; (case kAr => exact rfl); (case kFr => exact rfl); (case kKr => first | exact rfl | assumption); (case k1r => k_asm); (case k2r => k_asm); (case k3r => k_asm); (case k4r => k_asm); (case k5r => k_asm); (case k6r => k_is); (case k7r => k_is); (case k8r => ktr_room); (case k9r => first | exact BindsTo.of_eq rfl | exact binds_K (by k_in) rfl (by k_is) rfl rfl rfl); (case c5r => decide); (case kBr => exact locs rfl); (case c2r => exact rfl); (case c3r => exact rfl); (case c4r => exact rfl); k_whole; intro g'r L'r h'r FG'r F'r N'r B'r X'r T'r; (try dsimp only); (try k_fold))
  k_with "callWith ref" => (k_here; k_dflt (refine' callWith_F ?k1r ?_; (case k1r => exact FnAt.of (by k_asm) (by k_mem)); k_whole))
  trivial
section
variable {w : World} {p : Program} {loose : List Str} {mean : ExcName → Option Value} {mg mb : Str → Option Value} {g : Heap} {x : LawFix} {fa : Addr} {s : Shared} {Q : Flow → Shared → Prop} {E : Value → Shared → Prop} {cst : CSt} {lst : LSt} {R : List (Addr × Obj)} {i : Nat} {m : Str → Option Value} {zt yt t1 t2 t3 t4 : Tok} {q key fresh : Int}
  (B : Below callerA g [] g) (X : (hd.heap_39 w.params).In g) (T : Top p loose mean mg mb g)
  (hG : GoneSpec w p loose mean mg mb x.c.ga x.c.ol x.c.S₀) (hU : UseSpec w p loose mean mg mb x.ua x.lc x.Su) (hD : DropSpec w p loose mean mg mb x.da x.lc x.Sd)
include B X T hG hU hD
theorem rules_LDeed4o1 : True := by
  k_with "exec Try cons cons nil nil" => ((with_reducible show wpAny _ _ (exec (Stmt.Try _ (_ :: _) _ [] _) _) _ _ _); refine wpAny_Try_except ?_)
  k_with "mem" => exact List.mem_append_right _ (by assumption)
  k_with "getItem ref int" => (k_here; k_dflt (refine' gi_miss ?hr ?Nr ?mr ?dr ?lr ?vr ?_; (case hr => rfl); (case Nr => k_asm); (case mr => k_mem); (case dr => assumption); (case lr => assumption); (case vr => assumption)); intro h'r e'r x'r)
  k_with "subscriptTail" => (k_here; (with_reducible show wpAny _ _ (subscriptTail _ _ (Value.ref _) (Value.int _ _)) _ _ _); k_dflt (refine' item_miss ?hr ?Nr ?mr ?dr ?lr ?vr ?_; (case hr => rfl); (case Nr => k_asm); (case mr => k_mem); (case dr => assumption); (case lr => assumption); (case vr => assumption)); intro h'r e'r x'r)
  k_with "noteFrame ref" => (k_here; (rename RaisedN _ _ _ _ _ _ => rkXr); (rename ∀ _ : Addr, PassesOwnAt _ _ _ _ _ => hE9r); k_dflt (refine' caught_X0 (T' := "KeyError") ?c1r ?c2r ?c3r rkXr ?c4r ?c5r ?c6r PyProof.Rows.Boot.«KeyError» kr_isExc_KeyError kr_notTuple_KeyError ?c7r ?_ ?c8r ?c9r ?car ?cbr ?ccr; (case c1r => assumption); (case c2r => assumption); (case c3r => assumption); (case c4r => assumption); (case c5r => k_asm); (case c6r => k_is); (case c7r => rw [isSubtype_type]; kernel_rfl); (case c8r => decide); (case c9r => rfl); (case car => rfl); (case cbr => decide); (case ccr => exact hE9r _)); intro h'r F'r N'r; (try dsimp only); (try k_fold))
  trivial
set_option maxRecDepth 100000 in
set_option maxHeartbeats 2000000 in
theorem deed4_out (hE : ∀ e : Addr, PassesOwnAt (model PySem.Challenge.rw_iy0004_01.row.prog w) ((callerA.deeper (envOfC (Str.ofString "law") lawScope x.L fa (.ref 183))).mark (some (.ref e))) (callerA.deeper (envOfC (Str.ofString "law") lawScope x.L fa (.ref 183))) (envOfC (Str.ofString "law") lawScope x.L fa (.ref 183)) E)
  (hi : i ≤ 64) (F : Fr g x.L s.heap (deedMap x cst.size cst.stay zt yt 4 q key fresh t1 t2 t3 t4 m)) (N : News g x.L s.heap (LedC x cst lst R)) (I : Inv w x cst lst R i) (hkey : key ∉ cst.line.map Node.k) :
  wpAny (model PySem.Challenge.rw_iy0004_01.row.prog w) (callerA.deeper (envOfC (Str.ofString "law") lawScope x.L fa (.ref 183))) (exec deedIf (envOfC (Str.ofString "law") lawScope x.L fa (.ref 183))) (DeedEnd w x g s R (i + 1) key) E s := by
  revert X; k_fill; intro X
  have es : lawScope = Scope.mk _ _ _ _ _ := rfl
  have eb : deedIf = Stmt.If _ _ _ _ := rfl
  rw [es] at hE
  rw [es, eb]
  clear es eb
  have hv := lvalueAt_none I.P.hkv (I.neither hkey)
  have hvc := valueAt_none I.G.hkv hkey
  have hoh := I.P.hoh
  have hha := I.P.hha
  have hoc := I.G.hoc
  have hdc := I.G.hdc
  have mheld := I.S.mheld
  have vheld := I.S.vheld
  have hca := I.ca
  have N1 := kst_newsOf N ledCL
  clear N
  k_steps
  (rename Inv _ _ _ _ _ _ => I)
  exact DeedEnd.intro (by assumption) ⟨rfl, ⟨_, rfl⟩, ⟨_, rfl⟩, rfl, rfl, rfl⟩ rfl (kst_newsOf (by assumption) ledLC) (I.later (Nat.le_succ i)) (fun _ h => h)
end
end
section
-- LDeed3
open PySem PySem.W PySem.Calls PyProof.Rows
theorem rules_LDeed30 : True := by
  k_with_none
  k_with "ne" => (refine neN ?_; (try dsimp only); first | assumption | (apply Ne.symm; assumption))
  k_with "tone" => (refine neN ?_; (try dsimp only); first | assumption | (apply Ne.symm; assumption))
  k_with "mem" => assumption
  k_with "subscriptTail" => (k_here; (with_reducible show wpAny _ _ (subscriptTail _ _ (Value.ref _) (Value.int _ _)) _ _ _); k_dflt (refine' kda_item (knd := PySem.intKind _ _) ?Nr ?mr ?dr (intKind_is _ _ _ _) ?vr ?_; (case Nr => k_asm); (case mr => k_mem); (case dr => assumption); (case vr => assumption)))
  k_with "getItem ref int" => (k_here; k_dflt (refine' gi_sym ?Nr ?mr ?dr ?vr ?_; (case Nr => k_asm); (case mr => k_mem); (case dr => assumption); (case vr => assumption); k_whole))
  k_with "call builtin:len" => (k_here; (with_reducible show wpAny _ _ (call (Value.builtin "len") [Value.ref _]) _ _ _); k_dflt (refine' kda_len (knd := PySem.intKind _ _) ?Nr ?mr ?dr ?lr ?zr ?_; (case Nr => k_asm); (case mr => k_mem); (case dr => assumption); (case lr => assumption); (case zr => first | assumption | lia); k_whole))
  k_with "compareOp In int ref" => (k_here; k_dflt (first
    | (refine' kda_in (knd := PySem.intKind _ _) ?Nr ?mr ?dr ?lr (intKind_is _ _ _ _) true ?br ?_; (case Nr => k_asm); (case mr => k_mem); (case dr => assumption); (case lr => assumption); (case br => exact Option.isSome_iff_exists.mpr ⟨_, by assumption⟩); k_whole)
    | (refine' kda_in (knd := PySem.intKind _ _) ?Nr ?mr ?dr ?lr (intKind_is _ _ _ _) false ?br ?_; (case Nr => k_asm); (case mr => k_mem); (case dr => assumption); (case lr => assumption); (case br => exact Option.isSome_eq_false_iff.mpr (Option.isNone_iff_eq_none.mpr (by assumption))); k_whole)))
  k_with "setItem ref int" => (k_here; k_dflt (refine' kda_set (knd := PySem.intKind _ _) ?Fr ?Nr ?Ur ?dr (intKind_is _ _ _ _) ?zr ?_; (case Fr => k_asm); (case Nr => k_asm); (case Ur => k_updF); (case dr => assumption); (case zr => assumption)); intro h'r o'r F'r N'r hd'r; (try dsimp only at N'r))
  k_with "getMethod ref" => (k_here; (with_reducible show wpAny _ _ (getMethod (Value.ref _) (Str.ofString "pop") _) _ _ _); k_dflt (refine' kob_method (knd := PySem.intKind _ _) PySem.F.slot_dict_pop PySem.F.type_dict_pop ?Nr ?mr ?dr ?_; (case Nr => k_asm); (case mr => k_mem); (case dr => assumption)))
  k_with "getMethod ref" => (k_here; (with_reducible show wpAny _ _ (getMethod (Value.ref _) (Str.ofString "get") _) _ _ _); k_dflt (refine' kdg_method (knd := PySem.intKind _ _) ?Nr ?mr ?dr ?_; (case Nr => k_asm); (case mr => k_mem); (case dr => assumption)))
  k_with "call builtin:dict.pop" => (k_here; (with_reducible show wpAny _ _ (call (Value.builtin "dict.pop") [Value.ref _, Value.int _ _]) _ _ _); k_dflt (refine' kob_pop (knd := PySem.intKind _ _) (more := []) ?Fr ?Nr ?Ur ?dr (intKind_is _ _ _ _) (.inl rfl) (by rfl) (PySem.F.args_dict_pop_2 _ _) ?lr ?zr ?_; (case Fr => k_asm); (case Nr => k_asm); (case Ur => k_updF); (case dr => assumption); (case lr => assumption); (case zr => assumption)); intro h'r o'r F'r N'r hd'r; (try dsimp only at N'r))
  k_with "call builtin:dict.get" => (k_here; (with_reducible show wpAny _ _ (call (Value.builtin "dict.get") [Value.ref _, Value.int _ _, _]) _ _ _); k_dflt (refine' kdg_get2 (knd := PySem.intKind _ _) ?Nr ?mr ?dr ?lr (intKind_is _ _ _ _) _ ?vr ?_; (case Nr => k_asm); (case mr => k_mem); (case dr => assumption); (case lr => assumption); (case vr => assumption)); (try dsimp only [Option.getD]))
  k_with "enter" => (refine' code_def ?k1r ?k2r ?k3r ?k4r ?k5r ?kAr ?kFr ?kKr ?k6r ?k7r ?k8r ?k9r ?kBr ?_ ?c2r ?c3r ?c4r ?c5r; (case kAr => exact rfl); (case kFr => exact rfl); (case kKr => first | exact rfl | assumption); (case k1r => k_asm); (case k2r => k_asm); (case k3r => k_asm); (case k4r => k_asm); (case k5r => k_asm); (case k6r => k_is); (case k7r => k_is); (case k8r => ktr_room); (case k9r => first | exact BindsTo.of_eq rfl | exact binds_K (by k_in) rfl (by k_is) rfl rfl rfl); (case c5r => decide); (case kBr => exact locs rfl); (case c2r => exact rfl); (case c3r => exact rfl); (case c4r => exact rfl); k_whole; intro g'r L'r h'r FG'r F'r N'r B'r X'r T'r; (try dsimp only); (try k_fold))
  k_with "callWith ref" => (k_here; k_dflt (refine' callWith_F ?k1r ?_; (case k1r => exact FnAt.of (by k_asm) (by k_mem)); k_whole))
  trivial
section
variable {w : World} {p : Program} {loose : List Str} {mean : ExcName → Option Value} {mg mb : Str → Option Value} {g : Heap} {x : LawFix} {fa : Addr} {s : Shared} {Q : Flow → Shared → Prop} {E : Value → Shared → Prop} {cst : CSt} {lst : LSt} {R : List (Addr × Obj)} {i : Nat} {m : Str → Option Value} {zt yt t1 t2 t3 t4 : Tok} {q key fresh : Int}
  (B : Below callerA g [] g) (X : (hd.heap_39 w.params).In g) (T : Top p loose mean mg mb g)
  (hG : GoneSpec w p loose mean mg mb x.c.ga x.c.ol x.c.S₀) (hU : UseSpec w p loose mean mg mb x.ua x.lc x.Su) (hD : DropSpec w p loose mean mg mb x.da x.lc x.Sd)
include B X T hG hU hD
theorem rules_LDeed31 : True := by
  k_with "call ref" => (k_here; (with_reducible show wpAny _ _ (call (Value.ref 102) _ _) _ _ _); (rename Inv _ _ _ _ _ _ => I9r); (rename News _ _ _ _ => N9r); k_dflt (refine' get_none ?g1r ?g2r ?g3r ?g4r rfl ?g6r (kst_newsOf N9r ledLC) (Inv.G I9r) ?g8r ?_; (case g1r => k_asm); (case g2r => k_asm); (case g3r => k_asm); (case g4r => k_asm); (case g6r => ktr_room); (case g8r => assumption)); intro h9r tk9r F9r N8r; (have N7r := kst_newsOf N8r ledCL); clear N9r N8r; (try dsimp only); (try k_fold))
  trivial
set_option maxRecDepth 100000 in
set_option maxHeartbeats 2000000 in
theorem deed3_out (hi : i ≤ 64) (F : Fr g x.L s.heap (deedMap x cst.size cst.stay zt yt 3 q key fresh t1 t2 t3 t4 m)) (N : News g x.L s.heap (LedC x cst lst R)) (I : Inv w x cst lst R i) (hkey : key ∉ cst.line.map Node.k) :
  wpAny (model PySem.Challenge.rw_iy0004_01.row.prog w) (callerA.deeper (envOfC (Str.ofString "law") lawScope x.L fa (.ref 183))) (exec deedIf (envOfC (Str.ofString "law") lawScope x.L fa (.ref 183))) (DeedEnd w x g s R (i + 1) key) E s := by
  revert X; k_fill; intro X
  have es : lawScope = Scope.mk _ _ _ _ _ := rfl
  have eb : deedIf = Stmt.If _ _ _ _ := rfl
  rw [es, eb]
  clear es eb
  have hv := lvalueAt_none I.P.hkv (I.neither hkey)
  have hoh := I.P.hoh
  have hha := I.P.hha
  have inR : ∀ y, y ∈ R → y ∈ seg x.c.ga .none cst.line .none ++ R := fun y hy => List.mem_append_right _ hy
  have mheld := inR _ I.S.mheld
  have vheld := I.S.vheld
  have hca := inR _ I.ca
  have N1 := kst_newsOf N ledCL
  clear N
  k_steps
  (rename Inv _ _ _ _ _ _ => I)
  exact DeedEnd.intro (by assumption) ⟨rfl, ⟨_, rfl⟩, ⟨_, rfl⟩, rfl, rfl, rfl⟩ rfl (kst_newsOf (by assumption) ledLC) (I.later (Nat.le_succ i)) (fun _ h => h)
theorem rules_LDeed32 : True := by
  k_with "mem" => exact List.mem_append_right _ (by assumption)
  k_with "call ref" => (k_here; (with_reducible show wpAny _ _ (call (Value.ref 102) _ _) _ _ _); (rename Inv _ _ _ _ _ _ => I9r); (rename News _ _ _ _ => N9r); k_dflt (refine' get_some ?g1r ?g2r ?g3r ?g4r rfl ?g6r (kst_newsOf N9r ledLC) (Inv.G I9r) ?g8r ?_; (case g1r => k_asm); (case g2r => k_asm); (case g3r => k_asm); (case g4r => k_asm); (case g6r => ktr_room); (case g8r => assumption)); intro h9r tk9r F9r N8r; (have N7r := kst_newsOf N8r ledCL); clear N9r N8r; (try dsimp only); (try k_fold))
  k_with "call ref" => (k_here; (rename UseSpec _ _ _ _ _ _ _ _ _ => hU9r); (rename Stat _ _ => S9r); k_dflt (refine' hU9r _ _ _ _ _ _ _ _ _ _ _ _ _ _ _ _ _ _ _ _ _ _ _ _ ?p1r ?p2r ?p3r ?p4r ?p5r ?pkr ?p6r ?p7r ?p8r ?p9r ?per ?par ?pbr ?_; (case p1r => k_asm); (case p2r => k_asm); (case p3r => k_asm); (case p4r => assumption); (case p5r => k_asm); (case pkr => rfl); (case p6r => ktr_room); (case p7r => exact fun y hy => memLed (S9r.uS y hy)); (case p8r => assumption); (case p9r => assumption); (case per => rfl); (case par => assumption); (case pbr => assumption)); intro h9r tk9r F9r N9r; (try dsimp only); (try k_fold))
  trivial
set_option maxRecDepth 100000 in
set_option maxHeartbeats 2000000 in
theorem deed3_in (hi : i ≤ 64) (F : Fr g x.L s.heap (deedMap x cst.size cst.stay zt yt 3 q key fresh t1 t2 t3 t4 m)) (N : News g x.L s.heap (LedC x cst lst R)) (I : Inv w x cst lst R i) (hkey : key ∈ cst.line.map Node.k) :
  wpAny (model PySem.Challenge.rw_iy0004_01.row.prog w) (callerA.deeper (envOfC (Str.ofString "law") lawScope x.L fa (.ref 183))) (exec deedIf (envOfC (Str.ofString "law") lawScope x.L fa (.ref 183))) (DeedEnd w x g s R (i + 1) key) E s := by
  revert X; k_fill; intro X
  have es : lawScope = Scope.mk _ _ _ _ _ := rfl
  have eb : deedIf = Stmt.If _ _ _ _ := rfl
  rw [es, eb]
  clear es eb
  obtain ⟨pre, n, post, pre', kt, vt, t, post', rfl, h1, h3, h4, h5⟩ := I.both hkey
  have S := I.S
  have hsz := I.sizes hi
  have hel : lst.ents.length ≤ 4096 := by lia
  have hv : valueAt lst.hkvs n.k = some (Value.ref t) := I.P.val (e := ⟨n.k, kt, n.v, vt, n.f, t⟩) (by rw [h3]; simp)
  have htup : (t, tup2 (.int n.v vt) (.bool n.f)) ∈ R := I.P.htup ⟨n.k, kt, n.v, vt, n.f, t⟩ (by rw [h3]; simp)
  have hoh := I.P.hoh
  have hha := I.P.hha
  have mheld := I.S.mheld
  have vheld := I.S.vheld
  have hca := I.ca
  obtain ⟨ua1, ua2, ua3, ua4, ufn⟩ := I.S.ufn
  have hn1 := nodupL (I.G.touch h1)
  have N1 := kst_newsOf N ledCL
  clear N
  k_steps
  · exfalso; lia
  (rename Inv _ _ _ _ _ _ => I)
  exact DeedEnd.intro (by assumption) ⟨rfl, ⟨_, rfl⟩, ⟨_, rfl⟩, rfl, rfl, rfl⟩ rfl (kst_newsOf (by assumption) ledLC) ((I.touch _ h1 h3 h4).later (Nat.le_succ i)) (fun _ h => h)
end
end
section
-- LMeth
open PySem PySem.W PySem.Calls PyProof.Rows
theorem rules_LMeth0 : True := by
  k_with_none
  k_with "ne" => (refine neN ?_; (try dsimp only); first | assumption | (apply Ne.symm; assumption))
  k_with "tone" => (refine neN ?_; (try dsimp only); first | assumption | (apply Ne.symm; assumption))
  k_with "mem" => assumption
  k_with "subscriptTail" => (k_here; (with_reducible show wpAny _ _ (subscriptTail _ _ (Value.ref _) (Value.int _ _)) _ _ _); k_dflt (refine' kda_item (knd := PySem.intKind _ _) ?Nr ?mr ?dr (intKind_is _ _ _ _) ?vr ?_; (case Nr => k_asm); (case mr => k_mem); (case dr => assumption); (case vr => assumption)))
  k_with "getItem ref int" => (k_here; k_dflt (refine' gi_sym ?Nr ?mr ?dr ?vr ?_; (case Nr => k_asm); (case mr => k_mem); (case dr => assumption); (case vr => assumption); k_whole))
  k_with "call builtin:len" => (k_here; (with_reducible show wpAny _ _ (call (Value.builtin "len") [Value.ref _]) _ _ _); k_dflt (refine' kda_len (knd := PySem.intKind _ _) ?Nr ?mr ?dr ?lr ?zr ?_; (case Nr => k_asm); (case mr => k_mem); (case dr => assumption); (case lr => assumption); (case zr => first | assumption | lia); k_whole))
  k_with "compareOp In int ref" => (k_here; k_dflt (first
    | (refine' kda_in (knd := PySem.intKind _ _) ?Nr ?mr ?dr ?lr (intKind_is _ _ _ _) true ?br ?_; (case Nr => k_asm); (case mr => k_mem); (case dr => assumption); (case lr => assumption); (case br => exact Option.isSome_iff_exists.mpr ⟨_, by assumption⟩); k_whole)
    | (refine' kda_in (knd := PySem.intKind _ _) ?Nr ?mr ?dr ?lr (intKind_is _ _ _ _) false ?br ?_; (case Nr => k_asm); (case mr => k_mem); (case dr => assumption); (case lr => assumption); (case br => exact Option.isSome_eq_false_iff.mpr (Option.isNone_iff_eq_none.mpr (by assumption))); k_whole)))
  k_with "setItem ref int" => (k_here; k_dflt (refine' kda_set (knd := PySem.intKind _ _) ?Fr ?Nr ?Ur ?dr (intKind_is _ _ _ _) ?zr ?_; (case Fr => k_asm); (case Nr => k_asm); (case Ur => k_updF); (case dr => assumption); (case zr => assumption)); intro h'r o'r F'r N'r hd'r; (try dsimp only at N'r))
  k_with "getMethod ref" => (k_here; (with_reducible show wpAny _ _ (getMethod (Value.ref _) (Str.ofString "pop") _) _ _ _); k_dflt (refine' kob_method (knd := PySem.intKind _ _) PySem.F.slot_dict_pop PySem.F.type_dict_pop ?Nr ?mr ?dr ?_; (case Nr => k_asm); (case mr => k_mem); (case dr => assumption)))
  k_with "getMethod ref" => (k_here; (with_reducible show wpAny _ _ (getMethod (Value.ref _) (Str.ofString "get") _) _ _ _); k_dflt (refine' kdg_method (knd := PySem.intKind _ _) ?Nr ?mr ?dr ?_; (case Nr => k_asm); (case mr => k_mem); (case dr => assumption)))
  k_with "call builtin:dict.pop" => (k_here; (with_reducible show wpAny _ _ (call (Value.builtin "dict.pop") [Value.ref _, Value.int _ _]) _ _ _); k_dflt (refine' kob_pop (knd := PySem.intKind _ _) (more := []) ?Fr ?Nr ?Ur ?dr (intKind_is _ _ _ _) (.inl rfl) (by rfl) (PySem.F.args_dict_pop_2 _ _) ?lr ?zr ?_; (case Fr => k_asm); (case Nr => k_asm); (case Ur => k_updF); (case dr => assumption); (case lr => assumption); (case zr => assumption)); intro h'r o'r F'r N'r hd'r; (try dsimp only at N'r))
  k_with "call builtin:dict.get" => (k_here; (with_reducible show wpAny _ _ (call (Value.builtin "dict.get") [Value.ref _, Value.int _ _, _]) _ _ _); k_dflt (refine' kdg_get2 (knd := PySem.intKind _ _) ?Nr ?mr ?dr ?lr (intKind_is _ _ _ _) _ ?vr ?_; (case Nr => k_asm); (case mr => k_mem); (case dr => assumption); (case lr => assumption); (case vr => assumption)); (try dsimp only [Option.getD]))
  k_with "enter" => (refine' code_def ?k1r ?k2r ?k3r ?k4r ?k5r ?kAr ?kFr ?kKr ?k6r ?k7r ?k8r ?k9r ?kBr ?_ ?c2r ?c3r ?c4r ?c5r; (case kAr => exact rfl); (case kFr => exact rfl); (case kKr => first | exact rfl | assumption); (case k1r => k_asm); (case k2r => k_asm); (case k3r => k_asm); (case k4r => k_asm); (case k5r => k_asm); (case k6r => k_is); (case k7r => k_is); (case k8r => ktr_room); (case k9r => first | exact BindsTo.of_eq rfl | exact binds_K (by k_in) rfl (by k_is) rfl rfl rfl); (case c5r => decide); (case kBr => exact locs rfl); (case c2r => exact rfl); (case c3r => exact rfl); (case c4r => exact rfl); k_whole; intro g'r L'r h'r FG'r F'r N'r B'r X'r T'r; (try dsimp only); (try k_fold))
  trivial
section
variable {w : World} {p : Program} {loose : List Str} {mean : ExcName → Option Value} {mg mb : Str → Option Value}
  {dp un : Nat} {gd : Option (List Code)} {cn : Str} {cs : Scope} {a : Addr} {ccd : Value} {cl : List (Str × Addr)} {outer : List Env} {A₀ : Around} {base h₀ : Heap} {L : Addr} {m : Str → Option Value} {s : Shared} {Q E : Value → Shared → Prop}
  (B : Below A₀ base outer h₀) (F : Fr h₀ L s.heap m) (X : (hd.heap_39 w.params).In h₀) (T : Top p loose mean mg mb h₀) (hk : cs.kind = .function) (hdp : dp + 2 < recursionLimit)
include B F X T hk hdp
variable {c : CFix} {st : CSt} {R : List (Addr × Obj)} {k v : Int} {tk0 tv0 : Tok} {dv : Value}
set_option maxRecDepth 100000 in
set_option maxHeartbeats 4000000 in
theorem ln_ok (N : News h₀ L s.heap (Led c st R)) (G : Good w c st R)
  (ret : ∀ t, Back h₀ L m s Q (.int st.line.length t) (Led c st R)) :
  wpAny (model PySem.Challenge.rw_iy0004_01.row.prog w) (ktrTop dp un gd cn cs L a ccd cl outer) (call (.ref 79) [.ref c.ca]) Q E s := by
  revert X; k_fill; intro X
  have hoc := G.hoc
  have hdc := G.hdc
  have hca : (c.ca, instObj 175 c.cd) ∈ seg c.ga .none st.line .none ++ R := List.mem_append_right _ G.hca
  have hlen := G.len
  have hroom := G.hroom
  have hz : st.kvs.length ≤ 16777216 := by lia
  refine wpAny_call ?_
  k_dflt ktr_enter
  k_steps
  rw [hlen]; exact ret _ _ _ (by assumption) (by assumption)
set_option maxRecDepth 100000 in
set_option maxHeartbeats 4000000 in
theorem cs_ok (N : News h₀ L s.heap (Led c st R)) (G : Good w c st R)
  (ret : Back h₀ L m s Q (.int st.size st.zt) (Led c st R)) :
  wpAny (model PySem.Challenge.rw_iy0004_01.row.prog w) (ktrTop dp un gd cn cs L a ccd cl outer) (call (.ref 94) [.ref c.ca]) Q E s := by
  revert X; k_fill; intro X
  have hoc := G.hoc
  have hdc := G.hdc
  have hca : (c.ca, instObj 175 c.cd) ∈ seg c.ga .none st.line .none ++ R := List.mem_append_right _ G.hca
  have hlen := G.len
  have hroom := G.hroom
  refine wpAny_call ?_
  k_dflt ktr_enter
  k_steps
  all_goals first | exact ret _ _ (by assumption) (by assumption) | w_report
set_option maxRecDepth 100000 in
set_option maxHeartbeats 4000000 in
theorem ct_in (N : News h₀ L s.heap (Led c st R)) (G : Good w c st R) (hin : k ∈ st.line.map Node.k)
  (ret : Back h₀ L m s Q (.bool true) (Led c st R)) :
  wpAny (model PySem.Challenge.rw_iy0004_01.row.prog w) (ktrTop dp un gd cn cs L a ccd cl outer) (call (.ref 65) [.ref c.ca, .int k tk0]) Q E s := by
  revert X; k_fill; intro X
  have hoc := G.hoc
  have hdc := G.hdc
  have hca : (c.ca, instObj 175 c.cd) ∈ seg c.ga .none st.line .none ++ R := List.mem_append_right _ G.hca
  have hlen := G.len
  have hroom := G.hroom
  obtain ⟨pre, n, post, hl, rfl⟩ := split_of hin
  have hv := G.val (n := n) (by rw [hl]; simp)
  refine wpAny_call ?_
  k_dflt ktr_enter
  k_steps
  all_goals first | exact ret _ _ (by assumption) (by assumption) | w_report
set_option maxRecDepth 100000 in
set_option maxHeartbeats 4000000 in
theorem ct_out (N : News h₀ L s.heap (Led c st R)) (G : Good w c st R) (hk0 : k ∉ st.line.map Node.k)
  (ret : Back h₀ L m s Q (.bool false) (Led c st R)) :
  wpAny (model PySem.Challenge.rw_iy0004_01.row.prog w) (ktrTop dp un gd cn cs L a ccd cl outer) (call (.ref 65) [.ref c.ca, .int k tk0]) Q E s := by
  revert X; k_fill; intro X
  have hoc := G.hoc
  have hdc := G.hdc
  have hca : (c.ca, instObj 175 c.cd) ∈ seg c.ga .none st.line .none ++ R := List.mem_append_right _ G.hca
  have hlen := G.len
  have hroom := G.hroom
  have hv := valueAt_none G.hkv hk0
  refine wpAny_call ?_
  k_dflt ktr_enter
  k_steps
  all_goals first | exact ret _ _ (by assumption) (by assumption) | w_report
theorem rules_LMeth1 : True := by
  k_with "getMethod ref" => (k_here; (with_reducible show wpAny _ _ (getMethod (Value.ref _) (Str.ofString "keys") _) _ _ _); k_dflt (refine' kdl_method (knd := PySem.intKind _ _) PySem.F.slot_dict_keys PySem.F.type_dict_keys ?Nr ?mr ?dr ?_; (case Nr => k_asm); (case mr => k_mem); (case dr => assumption)))
  k_with "call builtin:dict.keys" => (k_here; (with_reducible show wpAny _ _ (call (Value.builtin "dict.keys") [Value.ref _]) _ _ _); k_dflt (refine' kdl_view_keys (knd := PySem.intKind _ _) ?Fr ?Nr ?mr ?dr ?lr ?_; (case Fr => k_asm); (case Nr => k_asm); (case mr => k_mem); (case dr => assumption); (case lr => assumption)); intro h'r v'r F'r N'r l1r; (try k_lt l1r))
  trivial
set_option maxRecDepth 100000 in
set_option maxHeartbeats 4000000 in
theorem ks_ok (N : News h₀ L s.heap (Led c st R)) (G : Good w c st R)
  (ret : ∀ v, Back h₀ L m s Q (.ref v) ((v, { cls := .type "dict_keys", data := .fields #[.ref c.dc] }) :: Led c st R)) :
  wpAny (model PySem.Challenge.rw_iy0004_01.row.prog w) (ktrTop dp un gd cn cs L a ccd cl outer) (call (.ref 109) [.ref c.ca]) Q E s := by
  revert X; k_fill; intro X
  have hoc := G.hoc
  have hdc := G.hdc
  have hca : (c.ca, instObj 175 c.cd) ∈ seg c.ga .none st.line .none ++ R := List.mem_append_right _ G.hca
  have hlen := G.len
  have hroom := G.hroom
  refine wpAny_call ?_
  k_dflt ktr_enter
  k_steps
  exact ret _ _ _ (by assumption) (by assumption)
end
end
section
-- LPairs
open PySem PySem.W PySem.Calls PyProof.Rows
theorem list_no_keys : typeLookup (.type "list") "keys" = pure none := am_miss_of_fast (by kernel_rfl)
section
variable {prog : Program} {w : World} {A : Around} {E : Value → Shared → Prop} {s : Shared}
set_option maxRecDepth 8000 in
set_option maxHeartbeats 1000000 in
/-- a list has no method keys: the question is answered, the error is dropped -/
theorem ga_no_keys {a : Addr} {o : Obj} {xs : Array Value} {k : Nat} {Q : Option Value → Shared → Prop}
    (hx : s.heap.get? a = some o) (hc : o.cls = .type "list") (hdat : o.data = .seq xs k) (hd : o.dict = none) (hA : A.handled = none)
    (h : ∀ h' tk, (∀ b ob, s.heap.get? b = some ob → h'.get? b = some ob) → Q none { s with heap := h', toks := tk }) :
    wpAny (model prog w) A (getAttr? (.ref a) "keys") Q E s := by
  obtain ⟨c, dct, dat, sl⟩ := o
  simp only at hc hdat hd
  subst hc hdat hd
  obtain ⟨hp, g, d, tk, os⟩ := s
  have hT : ∀ tk', (⟨hp, g, d, tk', os⟩ : Shared).TypeIs (.ref a) "list" := fun _ => ⟨_, hx, rfl⟩
  have f1 := sub_AttributeError
  have f3 := F.slot_list_getattribute.lookup
  have f4 := F.slot_list_getattribute.bind (.ref a)
  have f5 := am_list_getattr_none
  have hmiss := list_no_keys
  have hname : (["__module__", "__name__", "__qualname__", "__doc__", "__annotations__"] : List Str).contains "keys" = false := by decide
  unfold getAttr? getAttrBy? getAttrBy
  repeat (any_goals (first | assumption | exact hT _ | ((with_reducible show wpAny _ _ (call (Value.builtin "list.__getattribute__") _ _) _ _ _); refine call_meets F.slot_list_getattribute (hT _) am_entry_list_getattribute (F.args_list_getattribute_2 _ _) (meets_getattribute_miss_list a xs k sl "keys" _ hmiss hname) ⟨hx, hA, fun h' tk' e hx' => ?_⟩) | wp_step))
  obtain ⟨t', u', he⟩ := hx'.there
  show wpAny _ _ (getattributeRaised _ _ _ _ _ _ _) _ _ _
  unfold getattributeRaised
  repeat (any_goals (first | assumption | wp_step))
  exact h _ _ hx'.keeps
theorem dpl_entry : entryFor table "dict.update.loop" = some Builtin.«dict.update.loop» := entryFor_of_tree (by kernel_rfl)
theorem dpl_plain : plainId "dict.update.loop" = true := by decide +kernel
end
end
section
-- LPairs2
open PySem PySem.W PySem.Calls PyProof.Rows
section
variable {prog : Program} {w : World} {A : Around} {E : Value → Shared → Prop} {s : Shared}
/-- a pair of an int and a value, laid as a tuple -/
noncomputable abbrev PairAt (h : Heap) (v : Value) (kv : Int × Value) : Prop := ∃ (t : Addr) (o : Obj) (tk : Tok) (n : Nat), v = .ref t ∧ h.get? t = some o ∧ o.cls = .type "tuple" ∧ o.data = .seq #[.int kv.1 tk, kv.2] n
theorem dpl_loop {I l D : Addr} {vs : List Value} {ps : List (Int × Value)} {R : Result → Shared → Prop} (hh : A.handled = none) (hIl : l ≠ I) (hID : D ≠ I) (hlD : D ≠ l) (hlen : vs.length = ps.length) (hsz : ps.length ≤ sizeLine) :
    ∀ (k i : Nat) (s : Shared) (j : Int) (u : Tok), ps.length - i = k → i ≤ ps.length → s.heap.IsListIter I l i → s.heap.IsList l vs.toArray → s.heap.DictOf (intKind prog w) D (merged [] (ps.take i)) →
    (∀ (x : Nat) (v : Value) (kv : Int × Value), vs[x]? = some v → ps[x]? = some kv → PairAt s.heap v kv ∧ v ≠ .ref D ∧ v ≠ .ref I) →
    (∀ h' tk, (∀ b o, b ≠ D → b ≠ I → s.heap.get? b = some o → h'.get? b = some o) → h'.DictOf (intKind prog w) D (merged [] ps) → R (.ok (.ret .none)) { s with heap := h', toks := tk }) →
    codeAny (model prog w) A (.builtin "dict.update.loop" ⟨[.ref D, .ref I, .int j u, .none], []⟩) R s := by
  intro k
  have W := Walks.list (prog := prog) (w := w) (A := A.in1) (by simpa using hh) I l hIl vs.toArray
  have hn : vs.toArray.size = ps.length := by simp [hlen]
  rw [hn] at W
  induction k with
  | zero =>
    intro i s j u hk hi hit hl hD hps hR
    have hin : i = ps.length := by lia
    subst hin
    refine codeAny_builtin dpl_entry ?_
    rw [Around.under_plainId dpl_plain _]
    show wpAny _ A.in1 (pyNext (.ref I) >>= _) _ _ s
    refine wpAny_bind (W.done s _ _ ⟨hit, hl⟩ fun h' tk hm => ?_)
    rw [List.take_length] at hD
    refine wpAny_bind (wpAny_pure (wpAny_pure (hR h' tk (fun b o h1 h2 e => hm b o (by simpa using h2) e) (hD.at fun o e => hm _ o (by simpa using hID) e))))
  | succ k ih =>
    intro i s j u hk hi hit hl hD hps hR
    have hlt : i < ps.length := by lia
    refine codeAny_builtin dpl_entry ?_
    rw [Around.under_plainId dpl_plain _]
    show wpAny _ A.in1 (pyNext (.ref I) >>= _) _ _ s
    refine wpAny_bind (W.item i s _ _ hlt ⟨hit, hl⟩ fun v h' tk' hP hst' hm => ?_)
    have hkv : ps[i]? = some ps[i] := List.getElem?_eq_getElem hlt
    have hPv : vs[i]? = some v := by simpa using hP
    obtain ⟨⟨t, o, tk, n, rfl, ht, hc, hd⟩, hvD, hvI⟩ := hps i v _ hPv hkv
    have ht' : h'.get? t = some o := hm t o (by simpa using fun e => hvI (by rw [e])) ht
    have hT : ({ s with heap := h', toks := tk' } : Shared).TypeIs (.ref t) "tuple" := ⟨o, ht', hc⟩
    show wpAny _ _ (holding [Value.ref t] _ >>= _) _ _ _
    refine wpAny_bind (wpAny_holding (wpAny_bind (wpAny_tryCatch ?_)))
    unfold Builtin.Dict.pairItems
    refine wpAny_bind (wpAny_typeOf hT ?_)
    rw [if_pos (by decide)]
    refine wpAny_bind (wpAny_seqItems ht' hd (wpAny_pure ?_))
    show wpAny _ _ (holding [Value.int ps[i].1 tk, ps[i].2] (dictSet D (Value.int ps[i].1 tk) ps[i].2)) _ _ _
    refine wpAny_holding (wpAny_dictSet_pairs (knd := intKind prog w) (hsz := ?hsz) (intKind_is prog w _ _) (hD.at fun o e => hm _ o (by simpa using hID) e) fun h₂ hD₂ hs₂ => ?_)
    case hsz =>
      have e1 := merged_length_le ([] : List (Int × Value)) (ps.take i)
      have e2 : (ps.take i).length ≤ ps.length := by rw [List.length_take]; lia
      simp only [List.length_nil, Nat.zero_add] at e1
      lia
    have tr : ∀ b o, b ≠ D → b ≠ I → s.heap.get? b = some o → h₂.get? b = some o := fun b o h1 h2 e => hs₂.extBut b o h1 (hm b o (by simpa using h2) e)
    refine wpAny_pure ⟨plainId_quiet dpl_plain _, ih (i + 1) _ _ _ (by lia) hlt (hst'.1.at fun o e => hs₂.extBut _ o (Ne.symm hID) e) (hst'.2.at fun o e => hs₂.extBut _ o (Ne.symm hlD) e) ?_ ?_ ?_⟩
    · rw [merged_take_succ [] ps i ps[i] hkv]; exact hD₂
    · intro x v kv hx hk
      obtain ⟨⟨t', o', tk', n', rfl, e1, e2, e3⟩, n1, n2⟩ := hps x v kv hx hk
      exact ⟨⟨t', o', tk', n', rfl, tr _ _ (fun e => n1 (by rw [e])) (fun e => n2 (by rw [e])) e1, e2, e3⟩, n1, n2⟩
    · intro h₃ tk₃ hm₃ hD₃
      exact hR h₃ tk₃ (fun b o h1 h2 e => hm₃ b o h1 h2 (tr b o h1 h2 e)) hD₃
/-- dict(list of pairs) -/
theorem dpl_call {l : Addr} {c : Nat} {vs : List Value} {ps : List (Int × Value)} {Q : Value → Shared → Prop} (hh : A.handled = none) (hl : s.heap.get? l = some (listOf vs.toArray c)) (hlen : vs.length = ps.length) (hsz : ps.length ≤ sizeLine)
    (hps : ∀ (x : Nat) (v : Value) (kv : Int × Value), vs[x]? = some v → ps[x]? = some kv → PairAt s.heap v kv)
    (h : ∀ h' tk, (∀ b o, s.heap.get? b = some o → h'.get? b = some o) → h'.DictOf (intKind prog w) s.heap.objs.size (merged [] ps) → Q (.ref s.heap.objs.size) { s with heap := h', toks := tk }) :
    wpAny (model prog w) A (call (.type "dict") [.ref l]) Q E s := by
  refine callType_codes (Q₁ := fun obj s₁ => obj = .ref s.heap.objs.size ∧ s₁ = { s with heap := s.heap.push { cls := .type "dict", data := .dict #[] } }) F.kt_called_dict (F.kt_typeCall_dict_1 _) F.entry_dict_init (kt_code_dict_new _ ⟨rfl, rfl⟩) ?_
  rintro obj s₁ ⟨rfl, rfl⟩
  have hnew : (s.heap.push { cls := .type "dict", data := .dict #[] }).DictOf (intKind prog w) s.heap.objs.size [] := Heap.DictOf.new s.heap
  have up : ∀ b o, s.heap.get? b = some o → (s.heap.push { cls := .type "dict", data := .dict #[] }).get? b = some o := fun b o e => Heap.get?_push_of_some _ e
  have hl' := up _ _ hl
  refine ⟨hnew.typeIs, F.args_dict_init_2 _ _, ?_⟩
  unfold Builtin.«dict.__init__»
  refine wpAny_bind ?_
  unfold Builtin.Dict.selfAndRest
  refine wpAny_bind (wpAny_notOrdered_dict hnew.typeIs ?_)
  show wpAny _ _ (pure (s.heap.objs.size, [Value.ref l])) _ _ _
  refine wpAny_pure ?_
  show wpAny _ _ (Builtin.Dict.updateFrom "dict.__init__" s.heap.objs.size (.ref l) [] .none) _ _ _
  unfold Builtin.Dict.updateFrom
  refine wpAny_bind (wpAny_typeOf (T := "list") ⟨_, hl', rfl⟩ ?_)
  rw [if_pos (by decide)]
  refine wpAny_bind (ga_no_keys hl' rfl rfl rfl (by simpa using hh) fun h₁ tk₁ k₁ => ?_)
  rw [if_pos (by rfl)]
  refine wpAny_bind (wpAny_rule ?_)
  refine wpAny_bind (wpAny_pyIter_list ⟨_, k₁ _ _ hl', rfl, c, rfl⟩ ?_)
  have hDlt : s.heap.objs.size < h₁.objs.size := Heap.lt_size (k₁ _ _ (Heap.get?_push_size _ rfl))
  have hllt : l < s.heap.objs.size := Heap.lt_size hl
  have up₁ : ∀ b o, (s.heap.push { cls := .type "dict", data := .dict #[] }).get? b = some o → (h₁.push { cls := .type "list_iterator", data := .fields #[.ref l, .int 0 0] }).get? b = some o := fun b o e => Heap.get?_push_of_some _ (k₁ _ _ e)
  refine wpAny_pure ⟨plainId_quiet dpl_plain _, dpl_loop (A := A.in1) (I := h₁.objs.size) (l := l) (D := s.heap.objs.size) (vs := vs) (ps := ps) (by simpa using hh) (Nat.ne_of_lt (Nat.lt_trans hllt hDlt)) (Nat.ne_of_lt hDlt) (Nat.ne_of_gt hllt) hlen hsz ps.length 0 _ _ _ (Nat.sub_zero _) (Nat.zero_le _) ⟨_, Heap.get?_push_size _ rfl, rfl, rfl⟩ ⟨_, up₁ _ _ hl', rfl, c, rfl⟩ ?_ ?_ ?_⟩
  · rw [List.take_zero]; exact hnew.at fun o e => up₁ _ _ e
  · intro x v kv hx hk
    obtain ⟨t, o, tk, n, rfl, e1, e2, e3⟩ := hps x v kv hx hk
    have hlt := Heap.lt_size e1
    exact ⟨⟨t, o, tk, n, rfl, up₁ _ _ (up _ _ e1), e2, e3⟩, fun e => by injection e with e; exact absurd hlt (e ▸ Nat.lt_irrefl _), fun e => by injection e with e; exact absurd (Nat.lt_trans hlt hDlt) (e ▸ Nat.lt_irrefl _)⟩
  · intro h' tk hm hD
    refine ⟨rfl, h h' tk (fun b o e => hm b o (Nat.ne_of_lt (Heap.lt_size e)) (Nat.ne_of_lt (Nat.lt_trans (Heap.lt_size e) hDlt)) (up₁ _ _ (up _ _ e))) hD⟩
theorem dpl_N {h₀ : Heap} {L : Addr} {m : Str → Option Value} {news : List (Addr × Obj)} {l : Addr} {c : Nat} {vs : List Value} {ps : List (Int × Value)} {Q : Value → Shared → Prop} (hh : A.handled = none) (F : Fr h₀ L s.heap m) (N : News h₀ L s.heap news) (hbig : h₀.NoLimit)
    (hl : (l, listOf vs.toArray c) ∈ news) (hlen : vs.length = ps.length) (hsz : ps.length ≤ sizeLine) (hnd : (ps.map (·.1)).Nodup)
    (hps : ∀ (x : Nat) (v : Value) (kv : Int × Value), vs[x]? = some v → ps[x]? = some kv → ∃ (t : Addr) (tk : Tok), v = .ref t ∧ (t, ({ cls := .type "tuple", data := .seq [.int kv.1 tk, kv.2].toArray } : Obj)) ∈ news)
    (h : ∀ D o h' tk, Fr h₀ L h' m → News h₀ L h' ((D, o) :: news) → (∀ q ∈ news, q.1 < D) → (D == sysModules) = false → o.IsDictOf (intKind prog w) ps → Q (.ref D) { s with heap := h', toks := tk }) :
    wpAny (model prog w) A (call (.type "dict") [.ref l]) Q E s := by
  refine dpl_call hh (N _ hl).1 hlen hsz (fun x v kv hx hk => ?_) fun h' tk k hD => ?_
  · obtain ⟨t, tk, rfl, hm⟩ := hps x v kv hx hk
    exact ⟨t, _, tk, _, rfl, (N _ hm).1, rfl, rfl⟩
  · rw [merged_nil_of_nodup ps hnd] at hD
    obtain ⟨o', ho', hd'⟩ := Heap.dictOf_iff.mp hD
    have N1 := News.push F N { cls := .type "dict", data := .dict #[] }
    refine h _ o' h' tk (F.keeps k) ?_ (fun q hq => Heap.lt_size (N q hq).1) (F.notModules (modules_low hbig)) hd'
    intro q hq
    rcases List.mem_cons.mp hq with rfl | hq
    · exact ⟨ho', (N1 _ (.head _)).2⟩
    · exact ⟨k _ _ (N q hq).1, (N q hq).2⟩
end
end
section
-- LSortV
open PySem PySem.W PySem.Calls PyProof.Rows
section
variable {prog : Program} {w : World} {A : Around} {E : Value → Shared → Prop} {s : Shared} {h₀ : Heap} {L d v : Addr} {m : Str → Option Value} {news : List (Addr × Obj)} {Q : Value → Shared → Prop}
/-- sorted(keys of a dict of ints) -/
theorem skeys_N {o : Obj} {kvs : List (Int × Value)} (hh : A.handled = none) (F : Fr h₀ L s.heap m) (N : News h₀ L s.heap news) (hv : (v, ({ cls := .type "dict_keys", data := .fields #[.ref d] } : Obj)) ∈ news) (hp : (d, o) ∈ news) (hd : o.IsDictOf (intKind prog w) kvs) (hn : kvs.length < 64)
    (h : ∀ D vs ns c h' tk, Fr h₀ L h' m → News h₀ L h' ((D, listOf vs.toArray c) :: news) → (∀ q ∈ news, q.1 < D) → IntsAre vs ns → ns.Perm (kvs.map (·.1)) → ns.Pairwise (· ≤ ·) → Q (.ref D) { s with heap := h', toks := tk }) :
    wpAny (model prog w) A (call (.builtin "sorted") [.ref v]) Q E s := by
  obtain ⟨ep, hat⟩ := (kda_dict N hp hd).dictAt
  refine kdu_sorted (kdl_keys (knd := intKind prog w) (kvs := kvs) (ep := ep)) hh F N ⟨⟨_, (N _ hv).1, rfl, rfl⟩, hat⟩ (kdl_size (by lia)) fun B h' tk vs F' N' l1 hl hvs => ?_
  have hI : IntsAre vs (kvs.map (·.1)) := kdy_ints (by rw [hl, List.length_map]) fun j u hu => by
    obtain ⟨k, x, hx, hk⟩ := hvs j u hu
    obtain ⟨t, rfl⟩ := Value.isInt_shape hk
    exact ⟨k, by rw [List.getElem?_map, hx]; rfl, t, rfl⟩
  have zB := N' _ (.head _)
  have ho : h'.get? B = some (seqObj "list" vs.toArray 0) := zB.1
  refine wpAny_call_entry PyProof.Rows.slot_list_sort ⟨_, zB.1, rfl⟩ PyProof.Rows.entry_list_sort (list_sort_tree (n := 0) (vs := vs) ho hI (by lia) fun out ns' hI' hp' hP => ⟨.none, rfl, ?_⟩) (PyProof.Rows.args_list_sort _)
  obtain ⟨e, he⟩ := sortedHeap_at (out := out) ho
  have old : ∀ b ob, b ≠ B → h'.get? b = some ob → (sortedHeap h' B vs out).get? b = some ob := fun b ob hb e => (sortedHeap_old hb (Heap.lt_size e)).trans e
  refine h B out.toList ns' e _ tk ?_ ?_ l1 hI' hp' hP
  · exact ⟨F'.ns.at' fun o e => old _ o (Ne.symm zB.2.1) e, fun b o e => old b o (fun q => by rw [q, zB.2.2] at e; cases e) (F'.keep b o e), F'.above⟩
  · intro q hq
    rcases List.mem_cons.mp hq with rfl | hq
    · exact ⟨by rw [Array.toArray_toList]; exact he, zB.2⟩
    · have z := N' q (.tail _ hq)
      exact ⟨old _ _ (fun x => absurd (l1 q hq) (by rw [x]; exact Nat.lt_irrefl _)) z.1, z.2⟩
end
end
section
-- LEqT
open PySem PySem.W PySem.Calls PyProof.Rows
noncomputable def pdT (u : Int × Int) : PyData := .tuple [.int u.1, .int u.2]
theorem pd_can : ∀ l : List (Int × Int), PyData.canLayAll0 (l.map pdT) = true
  | [] => rfl
  | _ :: r => by simp [PyData.canLayAll0, PyData.canLay0, pdT, pd_can r]
theorem pd_depth : ∀ l : List (Int × Int), PyData.depthAll (l.map pdT) ≤ 1
  | [] => by simp [PyData.depthAll]
  | _ :: r => by
    have := pd_depth r
    simp only [List.map_cons, PyData.depthAll, PyData.depth, pdT]
    lia
theorem pd_shaped (l : List (Int × Int)) : SeqAt.shaped (.list (l.map pdT)) = true := by
  have := pd_depth l
  simp only [SeqAt.shaped, PyData.canLay0, PyData.depth, pd_can, Bool.true_and, decide_eq_true_eq]
  exact decide_eq_true (Nat.le_trans (Nat.succ_le_succ this) (show 1 + 1 ≤ 64 by decide))
theorem pd_eqv : ∀ l : List (Int × Int), PyData.eqvAll (l.map pdT) (l.map pdT) = true
  | [] => by simp [PyData.eqvAll]
  | _ :: r => by simp [PyData.eqvAll, PyData.eqv, pdT, pd_eqv r]
theorem reads_tups {h : Heap} : ∀ us : List Tup, (∀ u ∈ us, h.get? u.t = some u.obj) → ReadsAll h (refsOf us) ((absO us).map pdT) []
  | [], _ => .nil
  | u :: r, k => by
    refine ReadsAll.cons (as := []) (bs := []) (reads_tuple_at (k u (.head _)) rfl rfl ?_) (reads_tups r fun x hx => k x (.tail _ hx))
    exact ReadsAll.cons (as := []) (bs := []) (Reads.int _ _) (ReadsAll.cons (as := []) (bs := []) (Reads.int _ _) ReadsAll.nil)
section
variable {prog : Program} {w : World} {A : Around} {E : Value → Shared → Prop} {s : Shared} {h₀ : Heap} {L a b : Addr} {news : List (Addr × Obj)} {Q : Value → Shared → Prop}
theorem tups_reads {us : List Tup} {n : Nat} (N : News h₀ L s.heap news) (ha : (a, listOf (refsOf us).toArray n) ∈ news) (hus : ∀ u ∈ us, (u.t, u.obj) ∈ news) : ∃ as, Reads s.heap (.ref a) (.list ((absO us).map pdT)) as :=
  ⟨_, reads_list_at (N _ ha).1 rfl rfl (by simpa using reads_tups us fun u hu => (N _ (hus u hu)).1)⟩
/-- two lists of pairs that hold the same -/
theorem tups_ne {us ws : List Tup} {n k : Nat} (N : News h₀ L s.heap news) (ha : (a, listOf (refsOf us).toArray n) ∈ news) (hb : (b, listOf (refsOf ws).toArray k) ∈ news) (hus : ∀ u ∈ us, (u.t, u.obj) ∈ news) (hws : ∀ u ∈ ws, (u.t, u.obj) ∈ news)
    (e : absO us = absO ws) (hu : A.units + 64 < cLine) (h : Q (.bool false) s) : wpAny (model prog w) A (compareOp .NotEq (.ref a) (.ref b)) Q E s := by
  obtain ⟨as, ra⟩ := tups_reads N ha hus
  obtain ⟨bs, rb⟩ := tups_reads N hb hws
  rw [← e] at rb
  refine ne_dataH ra rb (pd_shaped _) (pd_shaped _) hu ?_
  rw [show PyData.eqv (.list ((absO us).map pdT)) (.list ((absO us).map pdT)) = true by simp only [PyData.eqv]; exact pd_eqv _]
  exact h
theorem tups_eq {us ws : List Tup} {n k : Nat} (N : News h₀ L s.heap news) (ha : (a, listOf (refsOf us).toArray n) ∈ news) (hb : (b, listOf (refsOf ws).toArray k) ∈ news) (hus : ∀ u ∈ us, (u.t, u.obj) ∈ news) (hws : ∀ u ∈ ws, (u.t, u.obj) ∈ news)
    (e : absO us = absO ws) (hu : A.units + 64 < cLine) (h : Q (.bool true) s) : wpAny (model prog w) A (compareOp .Eq (.ref a) (.ref b)) Q E s := by
  obtain ⟨as, ra⟩ := tups_reads N ha hus
  obtain ⟨bs, rb⟩ := tups_reads N hb hws
  rw [← e] at rb
  refine eq_dataH ra rb (pd_shaped _) (pd_shaped _) hu ?_
  rw [show PyData.eqv (.list ((absO us).map pdT)) (.list ((absO us).map pdT)) = true by simp only [PyData.eqv]; exact pd_eqv _]
  exact h
theorem keq_all {A : Around} {kb : List (Int × Value)} : ∀ {ka : List (Int × Value)}, (∀ kv ∈ ka, ∃ (x : Int) (t u : Tok), kv.2 = .int x t ∧ valueAt kb kv.1 = some (.int x u)) → KeqHits A s kb ka true
  | [], _ => .nil
  | (k, v) :: r, hall => by
    obtain ⟨x, t, u, rfl, e2⟩ := hall (k, v) (.head _)
    have := KeqHits.hit (A := A) (s := s) (v := .int x t) e2 (SeqAt.EqAt.int_int x t x u) (keq_all (ka := r) fun kv hkv => hall kv (.tail _ hkv))
    simpa using this
/-- two dicts of ints under ints that hold the same -/
theorem dicts_ne {oa ob : Obj} {ka kb : List (Int × Value)} (N : News h₀ L s.heap news) (ha : (a, oa) ∈ news) (hb : (b, ob) ∈ news) (da : oa.IsDictOf (intKind prog w) ka) (db : ob.IsDictOf (intKind prog w) kb) (la : (a == sysModules) = false) (lb : (b == sysModules) = false)
    (hlen : ka.length = kb.length) (hall : ∀ kv ∈ ka, ∃ (x : Int) (t u : Tok), kv.2 = .int x t ∧ valueAt kb kv.1 = some (.int x u)) (hu : A.units < cLine) (h : Q (.bool false) s) : wpAny (model prog w) A (compareOp .NotEq (.ref a) (.ref b)) Q E s := by
  refine keq_ne (r := true) la lb (kda_dict N ha da) (kda_dict N hb db) hu (fun _ => keq_all hall) (by rw [hlen]; simpa using h)
end
end
section
-- LComp
open PySem PySem.W PySem.Calls PyProof.Rows PyProof.Rows.LCg
section
variable {prog : Program} {w : World} {A : Around} {E : Value → Shared → Prop} {s : Shared}
/-- a comprehension that makes a dict, over pairs, without a test: one turn at a time -/
theorem dcp_loop {kx vx target iter : PySem.Expr} {scope : Scope} {pos : Pos} {it : Value} {D : Addr} {env : Env} {R : Result → Shared → Prop} (I : Nat → Shared → Prop)
    (turn : ∀ n s, I n s → wpAny (model prog w) A (pyNext it) (fun r s₁ => match r with
      | none => R (.ok .next) s₁
      | some v => wpAny (model prog w) A (letOwnedTupleGo target it v) (fun _ s₀ => wpAny (model prog w) A (assign target env v) (fun _ s₂ =>
          wpAny (model prog w) A (eval kx env) (fun kv s₃ => wpAny (model prog w) A (eval vx env) (fun vv s₄ =>
            wpAny (model prog w) A (dictSet D kv vv) (fun _ s₅ => ∃ m, m < n ∧ I m s₅) (notedBy (model prog w) A env fun e s' => R (.error e) s') s₄) (notedBy (model prog w) A env fun e s' => R (.error e) s') s₃) (notedBy (model prog w) A env fun e s' => R (.error e) s') s₂)
          (notedBy (model prog w) A env fun e s' => R (.error e) s') s₀) (notedBy (model prog w) A env fun e s' => R (.error e) s') s₁) (notedBy (model prog w) A env fun e s' => R (.error e) s') s)
    (n : Nat) (h : I n s) : codeAny (model prog w) A (.compLoop (.DictComp kx vx [⟨target, iter, [], 0⟩] scope pos) 0 it (.ref D) env) R s := by
  refine codeAny_loop rfl I (fun n s hI => ?_) n h
  show wpAny _ A ((compTurn (.DictComp kx vx [⟨target, iter, [], 0⟩] scope pos) 0 it (.ref D) env).onRaise (fun x => do noteFrame x env; theTreesLotGoes x)) _ _ s
  refine wpAny_noted ?_
  rw [compTurn_dict]
  refine wpAny_bind (wpAny_standAt (wpAny_bind (wpAny_mono (turn n s hI) (fun r s₁ h₁ => ?_) fun _ _ h' => h')))
  cases r with
  | none => exact wpAny_pure h₁
  | some v =>
    refine wpAny_bind (wpAny_mono h₁ (fun _ s₀ h₀' => ?_) fun _ _ h' => h')
    refine wpAny_bind (wpAny_mono h₀' (fun _ s₂ h₂ => ?_) fun _ _ h' => h')
    refine wpAny_bind (wpAny_tests_nil ?_)
    exact wpAny_bind (wpAny_bind (wpAny_mono h₂ (fun kv s₃ h₃ => wpAny_bind (wpAny_holding (wpAny_mono h₃ (fun vv s₄ h₄ => wpAny_bind (wpAny_standAt (wpAny_holding (wpAny_mono h₄ (fun _ s₅ h₅ => wpAny_pure ⟨rfl, h₅⟩) fun _ _ h' => h')))) fun _ _ h' => h'))) fun _ _ h' => h'))
theorem dcp_name {env : Env} {a : Str} {pk : Pos} {m : Str → Option Value} {v : Value} {Q : Value → Shared → Prop} (hd : (a == ("__debug__" : Str)) = false) (hk : env.scope.kind = .function) (hl : env.kindOf a = some .local) (hn : s.heap.Ns env.locals m) (hv : m a = some v) (h : Q v s) :
    wpAny (model prog w) A (eval (.Name a pk) env) Q E s := by
  rw [eval_Name env a pk hd]
  exact wpAny_bind (wpAny_standAt (wpAny_loadName_local hk hl hn hv h))
end
/-- what the dict holds after i turns -/
noncomputable abbrev accOf (f : Int → Value → Value) (kvs : List (Int × Value)) : List (Int × Value) := kvs.map fun kv => (kv.1, f kv.1 kv.2)
theorem acc_step {f : Int → Value → Value} {kvs : List (Int × Value)} (hnd : (kvs.map (·.1)).Nodup) {i : Nat} {k : Int} {v : Value} (hx : kvs[i]? = some (k, v)) : stored (accOf f (kvs.take i)) k (f k v) = accOf f (kvs.take (i + 1)) := by
  have hi : i < kvs.length := by
    rcases Nat.lt_or_ge i kvs.length with h | h
    · exact h
    · rw [List.getElem?_eq_none h] at hx; cases hx
  have e : kvs.take (i + 1) = kvs.take i ++ [(k, v)] := by
    rw [List.take_add_one, hx]; rfl
  have hnk : k ∉ (kvs.take i).map (·.1) := by
    intro hm
    have h2 := hnd
    rw [← List.take_append_drop i kvs, List.map_append, List.nodup_append] at h2
    have hd : kvs.drop i = (k, v) :: kvs.drop (i + 1) := by
      rw [List.drop_eq_getElem_cons hi]
      congr 1
      exact Option.some.inj ((List.getElem?_eq_getElem hi).symm.trans hx)
    exact h2.2.2 k hm k (by rw [hd]; simp) rfl
  have hn : valueAt (accOf f (kvs.take i)) k = none := by
    unfold valueAt
    rw [List.find?_eq_none.mpr ?_]
    · rfl
    · intro y hy
      obtain ⟨z, hz, rfl⟩ := List.mem_map.mp hy
      simp only [decide_eq_true_eq]
      intro e
      exact hnk (List.mem_map.mpr ⟨z, hz, e⟩)
  rw [stored_new hn, e]
  simp [accOf]
section
variable {prog : Program} {w : World} {A : Around} {E : Value → Shared → Prop} {h₀ : Heap} {L : Addr} {m : Str → Option Value} {env : Env} {kvs : List (Int × Value)} {ep : Nat}
noncomputable abbrev DcpTurn (prog : Program) (w : World) (A : Around) (h₀ : Heap) (L : Addr) (m : Str → Option Value) (env : Env) (vx : PySem.Expr) (a b : Str) (scope : Scope) (cl : List (Str × Addr)) (s₂ : Shared) (news : List (Addr × Obj)) (kvs : List (Int × Value)) (f : Int → Value → Value) : Prop :=
  ∀ k v, (k, v) ∈ kvs → ∀ (t : Tok) I oI C oC D oD m₂ h tk (E' : Value → Shared → Prop), NsObj oC m₂ → m₂ a = some (.int k t) → m₂ b = some v → Fr h₀ L h m → News h₀ L h ((I, oI) :: (C, oC) :: (D, oD) :: news) → Off3 I C D news → (@Ne Nat I C ∧ @Ne Nat I D ∧ @Ne Nat C D) →
    wpAny (model prog w) A (eval vx (compEnvC scope cl C env)) (fun y s' => y = f k v ∧ ∃ h' tk', s' = { s₂ with heap := h', toks := tk' } ∧ Fr h₀ L h' m ∧ News h₀ L h' ((I, oI) :: (C, oC) :: (D, oD) :: news)) E' { s₂ with heap := h, toks := tk }
theorem dcp_block {vx iter : PySem.Expr} {a b : Str} {pk pa pb tp : Pos} {kk : Nat} {scope : Scope} {cl : List (Str × Addr)} {pos : Pos} {s₂ : Shared} {I d : Addr} {od : Obj} {ok ov : Value} {news : List (Addr × Obj)} {f : Int → Value → Value} {RR : Value → Addr → Result → Shared → Prop}
    (hh : A.handled = none) (hne : d ≠ I) (hsz : kvs.length ≤ sizeLine) (hat : KdkAt (intKind prog w) od kvs ep) (hnd : (kvs.map (·.1)).Nodup) (hit : IsItemIter s₂.heap I d 0 kvs.length ep ok ov) (hS : (d, od) ∈ news)
    (hcell : ∀ y ∈ scope.names, y.2 ≠ .cell) (hkind : scope.kind = .function) (hxa : scope.names.lookup a = some .local) (hxb : scope.names.lookup b = some .local) (hab : ¬ a = b) (hdb : (a == ("__debug__" : Str)) = false)
    (F : Fr h₀ L s₂.heap m) (N : News h₀ L s₂.heap news) (hIL : L ≠ I) (hI₀ : h₀.get? I = none) (off : ∀ p ∈ news, p.1 ≠ I) (turn : DcpTurn prog w A h₀ L m env vx a b scope cl s₂ news kvs f)
    (hbig : sysModules < h₀.objs.size) (hRR : ∀ D C oD h tk m', (D == sysModules) = false → Fr h₀ L h m → News h₀ L h ((D, oD) :: news) → oD.IsDictOf (intKind prog w) (accOf f kvs) → h.Ns C m' → h₀.get? C = none → C ≠ L → C ≠ D → (∀ p ∈ news, p.1 ≠ C) → RR (.ref D) C (.ok .next) { s₂ with heap := h, toks := tk }) :
    wpAny (model prog w) A newDict (fun acc s₃ => wpAny (model prog w) A (newFunctionEnv scope env.globals cl [] env.qual none .none (some env)) (fun cenv s₄ =>
      codeAny (model prog w) A (.compStart (.DictComp (.Name a pk) vx [⟨.Tuple [.Name a pa, .Name b pb] kk tp, iter, [], 0⟩] scope pos) 0 (.ref I) acc { cenv with scope := relabel scope env }) (RR acc cenv.locals) s₄) E s₃) E s₂ := by
  refine wpAny_newObj_type (wpAny_newFunctionEnv hcell (by intro y hy; simp at hy) (fun h₁ hns₁ hsb₁ => ?_) hkind)
  dsimp only at hns₁ hsb₁ ⊢
  have hnew : (s₂.heap.push { cls := .type "dict", dict := none, data := .dict #[] }).DictOf (intKind prog w) s₂.heap.objs.size [] := Heap.DictOf.new s₂.heap
  generalize hH2 : s₂.heap.push { cls := .type "dict", dict := none, data := .dict #[] } = H2 at hns₁ hsb₁ hnew ⊢
  have hC : H2.objs.size = s₂.heap.objs.size + 1 := by rw [← hH2, Heap.size_push]
  have hDC : s₂.heap.objs.size ≠ H2.objs.size := by rw [hC]; exact Nat.ne_of_lt (Nat.lt_succ_self _)
  have below : ∀ b, b < s₂.heap.objs.size → b ≠ H2.objs.size ∧ b ≠ s₂.heap.objs.size := fun b hb => ⟨by rw [hC]; exact Nat.ne_of_lt (Nat.lt_succ_of_lt hb), Nat.ne_of_lt hb⟩
  have old : ∀ b o, s₂.heap.get? b = some o → h₁.get? b = some o := fun b o e => hsb₁.extBut b o (below b (Heap.lt_size e)).1 (Heap.get?_push_of_some _ (hH2 ▸ Heap.get?_push_of_some _ e))
  have hacc : h₁.DictOf (intKind prog w) s₂.heap.objs.size [] := hnew.at fun o e => hsb₁.extBut _ _ hDC (Heap.get?_push_of_some _ e)
  have hit₁ : IsItemIter h₁ I d 0 kvs.length ep ok ov := old _ _ hit
  have fresh₀ : ∀ a, s₂.heap.objs.size ≤ a → h₀.get? a = none := fun a ha => by
    cases e : h₀.get? a with
    | none => rfl
    | some o' => exact absurd (Heap.lt_size (F.keep a o' e)) (Nat.not_lt.mpr ha)
  have hD₀ : h₀.get? s₂.heap.objs.size = none := fresh₀ _ (Nat.le_refl _)
  have hC₀ : h₀.get? H2.objs.size = none := fresh₀ _ (by rw [hC]; exact Nat.le_succ _)
  have hDL : s₂.heap.objs.size ≠ L := Ne.symm (below L F.ns.lt).2
  have hCL : H2.objs.size ≠ L := Ne.symm (below L F.ns.lt).1
  have hIlt : I < s₂.heap.objs.size := Heap.lt_size hit
  have hCI : I ≠ H2.objs.size := (below I hIlt).1
  have hDI : I ≠ s₂.heap.objs.size := (below I hIlt).2
  have off₀ : Off3 I H2.objs.size s₂.heap.objs.size news := Off3.of fun p hp => ⟨off p hp, (below _ (Heap.lt_size (N p hp).1)).1, (below _ (Heap.lt_size (N p hp).1)).2⟩
  have off3 := off₀.mem
  have W := kti_itemsTurns (knd := intKind prog w) (elts := [.Name a pa, .Name b pb]) (kk := kk) (pos := tp) hh I d hne kvs ep
  have hnd' : ∀ i, (kvs.take i).length ≤ sizeLine := fun i => by rw [List.length_take]; omega
  have loop : ∀ s₃ : Shared, s₃ = { s₂ with heap := h₁, toks := s₂.toks + ([] : List (Str × Value)).length } →
      codeAny (model prog w) A (.compLoop (.DictComp (.Name a pk) vx [⟨.Tuple [.Name a pa, .Name b pb] kk tp, iter, [], 0⟩] scope pos) 0 (.ref I) (.ref s₂.heap.objs.size) (compEnvC scope cl H2.objs.size env))
        (RR (.ref s₂.heap.objs.size) H2.objs.size) s₃ := by
    rintro s₃ rfl
    refine dcp_loop
      (fun n s' => ∃ h' tk i m', s' = { s₂ with heap := h', toks := tk } ∧ i ≤ kvs.length ∧ n = kvs.length + 1 - i ∧ (∃ ok ov, IsItemIter h' I d i kvs.length ep ok ov) ∧ Fr h₀ L h' m ∧ h'.Ns H2.objs.size m' ∧
        h'.DictOf (intKind prog w) s₂.heap.objs.size (accOf f (kvs.take i)) ∧ News h₀ L h' news) ?_ (kvs.length + 1)
      ⟨h₁, _, 0, _, rfl, Nat.zero_le _, rfl, ⟨_, _, hit₁⟩, F.keeps old, hns₁, by simpa [accOf] using hacc, fun p hp => ⟨old _ _ (N p hp).1, (N p hp).2⟩⟩
    rintro n s' ⟨h', tk, i, m', rfl, hi, rfl, hit', F', hn', hD, N'⟩
    have hMd : h'.DictAt (intKind prog w) d kvs ep := hat.dictAt (N' _ hS).1
    by_cases hlt : i < kvs.length
    · refine W.item i _ _ _ hlt ⟨hit', hMd⟩ fun v h₂ tk₂ hMd₂ hk₂ => ?_
      refine W.go i v _ _ _ hMd₂ fun h₃ hP hst₃ hk₃ => ?_
      obtain ⟨T, key, k, x, rfl, hx, hkey, hT⟩ := hP
      obtain ⟨t, rfl⟩ := Value.isInt_shape hkey
      have up₃ : ∀ c o, c ≠ I → h'.get? c = some o → h₃.get? c = some o := fun c o hc e => hk₃ c o (by simpa using hc) (hk₂ c o (by simpa using hc) e)
      refine kcp_assign (env := compEnvC scope cl H2.objs.size env) hh hT (lookup_relabel_local hxa) (lookup_relabel_local hxb) (by simp [compEnvC, relabel, hkind]) (hn'.at' fun o e => up₃ _ o (Ne.symm hCI) e) fun h₄ tk₄ hn₄ hs₄ => ?_
      have up : ∀ c o, c ≠ I → c ≠ H2.objs.size → h'.get? c = some o → h₄.get? c = some o := fun c o h1 h2 e => hs₄ c o h2 (up₃ c o h1 e)
      obtain ⟨⟨ok', ov', hI₃⟩, _⟩ := hst₃
      have hI₄ : IsItemIter h₄ I d (i + 1) kvs.length ep ok' ov' := hs₄ I _ hCI hI₃
      obtain ⟨oI, heI, hoI⟩ : ∃ oI : Obj, h₄.get? I = some oI ∧ ∀ h : Heap, h.get? I = some oI → ∃ ok ov, IsItemIter h I d (i + 1) kvs.length ep ok ov := ⟨_, hI₄, fun _ e => ⟨_, _, e⟩⟩
      obtain ⟨oC, heC, hoC⟩ := ns_obj hn₄
      have hD₄ : h₄.DictOf (intKind prog w) s₂.heap.objs.size (accOf f (kvs.take i)) := hD.at fun o e => up _ o (Ne.symm hDI) hDC e
      obtain ⟨oD, heD, hoD⟩ := Heap.dictOf_iff.mp hD₄
      have F₄ : Fr h₀ L h₄ m := ⟨F'.ns.at' fun o e => up _ o hIL (Ne.symm hCL) e, fun c o e => up c o (fun q => by rw [q, hI₀] at e; cases e) (fun q => by rw [q, hC₀] at e; cases e) (F'.keep c o e), F'.above⟩
      have N₄ : News h₀ L h₄ ((I, oI) :: (H2.objs.size, oC) :: (s₂.heap.objs.size, oD) :: news) := fun q hq => by
        rcases List.mem_cons.mp hq with rfl | hq
        · exact ⟨heI, Ne.symm hIL, hI₀⟩
        · rcases List.mem_cons.mp hq with rfl | hq
          · exact ⟨heC, hCL, hC₀⟩
          · rcases List.mem_cons.mp hq with rfl | hq
            · exact ⟨heD, hDL, hD₀⟩
            · exact ⟨up _ _ (off3 q hq).1 (off3 q hq).2.1 (N' q hq).1, (N' q hq).2⟩
      refine dcp_name (env := compEnvC scope cl H2.objs.size env) hdb (by simp [compEnvC, relabel, hkind]) (lookup_relabel_local hxa) (v := .int k t) hn₄ (by simp [hab]) ?_
      refine wpAny_mono (turn k x (List.mem_of_getElem? hx) t I oI H2.objs.size oC s₂.heap.objs.size oD _ h₄ _ _ hoC (by simp [hab]) (by simp) F₄ N₄ off₀ ⟨hCI, hDI, Ne.symm hDC⟩) (fun y s₅ h₅ => ?_) fun _ _ e => e
      obtain ⟨rfl, h₅, tk₅, rfl, F₅, N₅⟩ := h₅
      have zI := (N₅ (I, oI) List.mem_cons_self).1
      have zC := (N₅ (H2.objs.size, oC) (List.mem_cons_of_mem _ List.mem_cons_self)).1
      have zD := (N₅ (s₂.heap.objs.size, oD) (List.mem_cons_of_mem _ (List.mem_cons_of_mem _ List.mem_cons_self))).1
      have N₅' : News h₀ L h₅ news := fun q hq => N₅ q (List.mem_cons_of_mem _ (List.mem_cons_of_mem _ (List.mem_cons_of_mem _ hq)))
      refine wpAny_dictSet_pairs (knd := intKind prog w) (hsz := by rw [List.length_map]; exact hnd' i) hkey (Heap.dictOf_iff.mpr ⟨oD, zD, hoD⟩) fun h₆ hl₆ hs₆ => ?_
      rw [acc_step hnd hx] at hl₆
      refine ⟨kvs.length + 1 - (i + 1), by omega, h₆, _, i + 1, _, rfl, hlt, rfl, hoI h₆ (hs₆.extBut I oI hDI zI), F₅.change hs₆ hDL hD₀, (hoC.ns zC).sameBut hs₆ (Ne.symm hDC), hl₆, fun q hq => ⟨hs₆.extBut _ _ (off3 q hq).2.2 (N₅' q hq).1, (N₅' q hq).2⟩⟩
    · have hin : i = kvs.length := Nat.le_antisymm hi (Nat.not_lt.mp hlt)
      subst hin
      refine W.done _ _ _ ⟨hit', hMd⟩ fun h₂ tk₂ hk₂ => ?_
      have hD₂ : h₂.DictOf (intKind prog w) s₂.heap.objs.size (accOf f (kvs.take kvs.length)) := hD.at fun o e => hk₂ _ o (by simpa using Ne.symm hDI) e
      rw [List.take_length] at hD₂
      obtain ⟨oD, heD, hoD⟩ := Heap.dictOf_iff.mp hD₂
      refine hRR _ _ oD h₂ tk₂ _ (F.notModules hbig) (fr_but F' hk₂ hIL hI₀) (fun p hp => ?_) hoD (hn'.at' fun o e => hk₂ _ o (by simpa using Ne.symm hCI) e) hC₀ hCL (Ne.symm hDC) fun p hp => (off3 p hp).2.1
      rcases List.mem_cons.mp hp with rfl | hp
      · exact ⟨heD, hDL, hD₀⟩
      · exact ⟨hk₂ _ _ (by simpa using (off3 p hp).1) (N' p hp).1, (N' p hp).2⟩
  exact codeAny_compStart_dict (loop _ rfl) (kcp_self hit₁ (loop _ rfl))
/-- what the walk of the iterable must bring -/
noncomputable def DcpSrc (prog : Program) (w : World) (A : Around) (h₀ : Heap) (L : Addr) (m : Str → Option Value) (env : Env) (vx : PySem.Expr) (a b : Str) (scope : Scope) (cl : List (Str × Addr)) (Q : Value → Shared → Prop) (xv : Value) (s₁ : Shared) : Prop :=
  ∃ (vw d : Addr) (od : Obj) (kvs : List (Int × Value)) (news : List (Addr × Obj)) (f : Int → Value → Value), xv = .ref vw ∧ A.handled = none ∧ Fr h₀ L s₁.heap m ∧ News h₀ L s₁.heap news ∧
    (∃ ov, s₁.heap.get? vw = some ov ∧ ov.cls = .type "dict_items" ∧ ov.data = .fields #[.ref d]) ∧ (d, od) ∈ news ∧ od.IsDictOf (intKind prog w) kvs ∧ kvs.length ≤ sizeLine ∧ (kvs.map (·.1)).Nodup ∧
    DcpTurn prog w A h₀ L m env vx a b scope cl s₁ news kvs f ∧ h₀.NoLimit ∧
    ∀ D oD h tk, (D == sysModules) = false → Fr h₀ L h m → News h₀ L h ((D, oD) :: news) → oD.IsDictOf (intKind prog w) (accOf f kvs) → Q (.ref D) { s₁ with heap := h, toks := tk }
theorem dcp_DictComp {s : Shared} {vx iter : PySem.Expr} {a b : Str} {pk pa pb tp : Pos} {kk : Nat} {scope : Scope} {cl : List (Str × Addr)} {pos : Pos} {Q : Value → Shared → Prop} (h₀ : Heap) (L : Addr) (m : Str → Option Value)
    (hclos : closureFor scope env = pure cl) (hcell : ∀ y ∈ scope.names, y.2 ≠ .cell) (hkind : scope.kind = .function)
    (hnames : ∀ y ∈ scope.names, y.2 = .local → scope.names.lookup y.1 = some .local) (hxa : scope.names.lookup a = some .local) (hxb : scope.names.lookup b = some .local) (hab : ¬ a = b) (hdb : (a == ("__debug__" : Str)) = false)
    (h : wpAny (model prog w) A (eval iter env) (DcpSrc prog w A h₀ L m env vx a b scope cl Q) E s)
    (hs : ∀ x, foldedSetIterable iter env x = pure x := by intro _; rfl) :
    wpAny (model prog w) A (eval (.DictComp (.Name a pk) vx [⟨.Tuple [.Name a pa, .Name b pb] kk tp, iter, [], 0⟩] scope pos) env) Q E s := by
  rw [arm_eval_DictComp]
  refine wpAny_comprehension_free (use := none) rfl hs hclos hkind hnames (wpAny_mono h (fun xv s₁ h₁ => ?_) fun _ _ e => e)
  obtain ⟨vw, d, od, kvs, news, f, rfl, hh, F, N, hv, hmd, hd, hsz, hnd, T, hbig, fin⟩ := h₁
  obtain ⟨ep, hat⟩ := KdkAt.of hd
  refine wpAny_pyIter_items hv (hat.dictAt (N _ hmd).1) ?_
  refine dcp_block (kvs := kvs) (ep := ep) (f := f) hh (Nat.ne_of_lt (Heap.lt_size (N _ hmd).1)) hsz hat hnd (Heap.get?_push_size _ rfl) hmd hcell hkind hxa hxb hab hdb (F.push _)
    (fun p hp => ⟨Heap.get?_push_of_some _ (N p hp).1, (N p hp).2⟩) (Nat.ne_of_lt F.ns.lt) (next_is_new F) (fun p hp => Nat.ne_of_lt (Heap.lt_size (N p hp).1)) T (modules_low hbig) ?_
  intro D C oD h tk m' lo F' N' hoD hn hC₀ hCL hCD offC
  refine ⟨m', hn, fun h'' hs'' => fin D oD h'' tk lo (F'.change hs'' hCL hC₀) (fun p hp => ?_) hoD⟩
  refine ⟨hs''.extBut _ _ ?_ (N' p hp).1, (N' p hp).2⟩
  rcases List.mem_cons.mp hp with rfl | hp
  · exact Ne.symm hCD
  · exact offC p hp
end
end
section
-- LListC
open PySem PySem.W PySem.Calls PyProof.Rows PyProof.Rows.LCg
noncomputable abbrev LEnt.pair (e : LEnt) : Obj := tup2 (.int e.k e.kt) (.int e.v e.vt)
section
variable {prog : Program} {w : World} {A : Around} {E : Value → Shared → Prop} {s : Shared} {h₀ : Heap} {L : Addr} {m : Str → Option Value} {env : Env}
/-- an element of the comprehension: a new pair -/
noncomputable def PairEnd (h₀ : Heap) (L : Addr) (m : Str → Option Value) (o : Obj) (led : List (Addr × Obj)) (s : Shared) (y : Value) (s' : Shared) : Prop :=
  ∃ (t : Addr) (h' : Heap) (tk' : Nat), y = .ref t ∧ s' = { s with heap := h', toks := tk' } ∧ Fr h₀ L h' m ∧ News h₀ L h' ((t, o) :: led) ∧ (∀ q ∈ led, q.1 < t)
theorem PairEnd.intro {h₀ : Heap} {L : Addr} {m : Str → Option Value} {o : Obj} {led : List (Addr × Obj)} {s : Shared} {t : Addr} {h' : Heap} {tk' : Nat} (F : Fr h₀ L h' m) (N : News h₀ L h' ((t, o) :: led)) (l : ∀ q ∈ led, q.1 < t) : PairEnd h₀ L m o led s (.ref t) { s with heap := h', toks := tk' } := ⟨t, h', tk', rfl, rfl, F, N, l⟩
noncomputable abbrev PairTurn (prog : Program) (w : World) (A : Around) (h₀ : Heap) (L : Addr) (m : Str → Option Value) (env : Env) (elt : PySem.Expr) (x : Str) (scope : Scope) (cl : List (Str × Addr)) (es : List LEnt) (base : List (Addr × Obj)) : Prop :=
  ∀ e ∈ es, ∀ (I : Addr) (oI : Obj) (C : Addr) (oC : Obj) (D : Addr) (oD : Obj) (m₂ : Str → Option Value) (news : List (Addr × Obj)) (E' : Value → Shared → Prop) (s : Shared), (∀ y ∈ base, y ∈ news) → NsObj oC m₂ → m₂ x = some (.int e.k e.kt) → Fr h₀ L s.heap m → News h₀ L s.heap ((I, oI) :: (C, oC) :: (D, oD) :: news) →
    wpAny (model prog w) A (eval elt (compEnvC scope cl C env)) (PairEnd h₀ L m e.pair ((I, oI) :: (C, oC) :: (D, oD) :: news) s) E' s
theorem comp_rest {elt : PySem.Expr} {x : Str} {scope : Scope} {cl : List (Str × Addr)} {s : Shared} {ax : Addr} {nn : Nat} {es : List LEnt} {base : List (Addr × Obj)} {Q : Value → Shared → Prop} (hax : (ax, listOf (lvals es).toArray nn) ∈ base)
    (turn : PairTurn prog w A h₀ L m env elt x scope cl es base)
    (fin : ∀ (D : Addr) (vs : List Value) (news' : List (Addr × Obj)) (h : Heap) (tk : Nat), vs.length = es.length → (∀ (i : Nat) (v : Value) (e : LEnt), vs[i]? = some v → es[i]? = some e → ∃ t, v = .ref t ∧ (t, e.pair) ∈ news') → (∀ y ∈ base, y ∈ news') → Fr h₀ L h m → News h₀ L h ((D, listOf vs.toArray vs.length) :: news') → Q (.ref D) { s with heap := h, toks := tk }) :
    ∀ (k i : Nat) (ys : List Value) (news : List (Addr × Obj)), i + k = es.length → ys.length = i → (∀ (i : Nat) (v : Value) (e : LEnt), ys[i]? = some v → es[i]? = some e → ∃ t, v = .ref t ∧ (t, e.pair) ∈ news) → (∀ y ∈ base, y ∈ news) →
      CompRest prog w A h₀ L m env elt x scope cl s (SrcAt h₀ ax (lvals es).toArray) (fun i v => (lvals es).toArray[i]? = some v) (FinE h₀ L m s Q) k i ys news := by
  intro k
  induction k with
  | zero =>
    intro i ys news hik hyl hys hb
    refine CompRest.zero ?_
    intro D h tk F N o1
    exact fin D ys news h tk (by lia) hys hb F N
  | succ k ih =>
    intro i ys news hik hyl hys hb
    refine CompRest.succ ?_
    intro v I oI C oC D m₂ h tk E' hv hC hx F N off ne
    have hi : i < es.length := by lia
    have hv' : v = .int es[i].k es[i].kt := by
      have : (lvals es)[i]? = some v := by simpa using hv
      rw [List.getElem?_map, List.getElem?_eq_getElem hi] at this
      exact (Option.some.inj this).symm
    subst hv'
    refine wpAny_mono (turn es[i] (List.getElem_mem hi) I oI C oC D _ m₂ news E' { s with heap := h, toks := tk } hb hC hx F N) (fun y s' h' => ?_) fun _ _ e => e
    obtain ⟨t, h', tk', rfl, rfl, F', N', lt⟩ := h'
    refine CompEnd.intro (s₁ := { s with heap := h, toks := tk }) F' N' ((t, es[i].pair) :: news) ?_ ?_ ?_ ?_
    · intro p hp
      simp only [List.mem_cons] at hp ⊢
      rcases hp with h | h | h | h | h <;> simp [h]
    · exact ⟨⟨Ne.symm (Nat.ne_of_lt (lt _ (.head _))), Ne.symm (Nat.ne_of_lt (lt _ (.tail _ (.head _)))), Ne.symm (Nat.ne_of_lt (lt _ (.tail _ (.tail _ (.head _)))))⟩, off⟩
    · exact .inr ⟨_, .tail _ (hb _ hax), rfl, _, rfl⟩
    · refine ih (i + 1) _ _ (by lia) (by simp [hyl]) ?_ fun y hy => .tail _ (hb y hy)
      intro j v e hj he
      rcases Nat.lt_or_ge j ys.length with hlt | hge
      · rw [List.getElem?_append_left hlt] at hj
        obtain ⟨t', e1, e2⟩ := hys j v e hj he
        exact ⟨t', e1, .tail _ e2⟩
      · rw [List.getElem?_append_right hge] at hj
        have h0 : j - ys.length = 0 := by
          rcases Nat.eq_zero_or_pos (j - ys.length) with h | h
          · exact h
          · rw [List.getElem?_eq_none (by simp only [List.length_cons, List.length_nil]; lia)] at hj; cases hj
        rw [h0] at hj
        have hji : j = i := by lia
        subst hji
        rw [List.getElem?_eq_getElem hi] at he
        cases he
        simp only [List.getElem?_cons_zero, Option.some.injEq] at hj
        exact ⟨t, hj.symm, .head _⟩
/-- a list of pairs made of a list of keys: what the walk of the iterable must bring -/
theorem comp_src {elt : PySem.Expr} {x : Str} {scope : Scope} {cl : List (Str × Addr)} {ax : Addr} {nn : Nat} {es : List LEnt} {base : List (Addr × Obj)} {Q : Value → Shared → Prop} (hh : A.handled = none) (F : Fr h₀ L s.heap m) (N : News h₀ L s.heap base) (hax : (ax, listOf (lvals es).toArray nn) ∈ base) (hsz : es.length ≤ sizeLine)
    (turn : PairTurn prog w A h₀ L m env elt x scope cl es base)
    (fin : ∀ (D : Addr) (vs : List Value) (news' : List (Addr × Obj)) (h : Heap) (tk : Nat), vs.length = es.length → (∀ (i : Nat) (v : Value) (e : LEnt), vs[i]? = some v → es[i]? = some e → ∃ t, v = .ref t ∧ (t, e.pair) ∈ news') → (∀ y ∈ base, y ∈ news') → Fr h₀ L h m → News h₀ L h ((D, listOf vs.toArray vs.length) :: news') → Q (.ref D) { s with heap := h, toks := tk }) :
    CompSrc prog w A h₀ L m env elt x scope cl (fun s₂ => FinE h₀ L m s₂ Q) (.ref ax) s := by
  have hl : (lvals es).toArray.size = es.length := by simp [lvals]
  refine CompSrc.ledger hh F N hax (by rw [hl]; exact hsz) fun g => ?_
  rw [hl]
  exact comp_rest (s := { s with heap := g }) hax turn fin es.length 0 [] base (by lia) rfl (by intro i v e hv; simp at hv) fun y hy => hy
end
end
section
-- LItems
open PySem PySem.W PySem.Calls PyProof.Rows
theorem rules_LItems0 : True := by
  k_with_none
  k_with "ne" => (refine neN ?_; (try dsimp only); first | assumption | (apply Ne.symm; assumption))
  k_with "tone" => (refine neN ?_; (try dsimp only); first | assumption | (apply Ne.symm; assumption))
  k_with "mem" => assumption
  k_with "subscriptTail" => (k_here; (with_reducible show wpAny _ _ (subscriptTail _ _ (Value.ref _) (Value.int _ _)) _ _ _); k_dflt (refine' kda_item (knd := PySem.intKind _ _) ?Nr ?mr ?dr (intKind_is _ _ _ _) ?vr ?_; (case Nr => k_asm); (case mr => k_mem); (case dr => assumption); (case vr => assumption)))
  k_with "getItem ref int" => (k_here; k_dflt (refine' gi_sym ?Nr ?mr ?dr ?vr ?_; (case Nr => k_asm); (case mr => k_mem); (case dr => assumption); (case vr => assumption); k_whole))
  k_with "call builtin:len" => (k_here; (with_reducible show wpAny _ _ (call (Value.builtin "len") [Value.ref _]) _ _ _); k_dflt (refine' kda_len (knd := PySem.intKind _ _) ?Nr ?mr ?dr ?lr ?zr ?_; (case Nr => k_asm); (case mr => k_mem); (case dr => assumption); (case lr => assumption); (case zr => first | assumption | lia); k_whole))
  k_with "compareOp In int ref" => (k_here; k_dflt (first
    | (refine' kda_in (knd := PySem.intKind _ _) ?Nr ?mr ?dr ?lr (intKind_is _ _ _ _) true ?br ?_; (case Nr => k_asm); (case mr => k_mem); (case dr => assumption); (case lr => assumption); (case br => exact Option.isSome_iff_exists.mpr ⟨_, by assumption⟩); k_whole)
    | (refine' kda_in (knd := PySem.intKind _ _) ?Nr ?mr ?dr ?lr (intKind_is _ _ _ _) false ?br ?_; (case Nr => k_asm); (case mr => k_mem); (case dr => assumption); (case lr => assumption); (case br => exact Option.isSome_eq_false_iff.mpr (Option.isNone_iff_eq_none.mpr (by assumption))); k_whole)))
  k_with "setItem ref int" => (k_here; k_dflt (refine' kda_set (knd := PySem.intKind _ _) ?Fr ?Nr ?Ur ?dr (intKind_is _ _ _ _) ?zr ?_; (case Fr => k_asm); (case Nr => k_asm); (case Ur => k_updF); (case dr => assumption); (case zr => assumption)); intro h'r o'r F'r N'r hd'r; (try dsimp only at N'r))
  k_with "getMethod ref" => (k_here; (with_reducible show wpAny _ _ (getMethod (Value.ref _) (Str.ofString "pop") _) _ _ _); k_dflt (refine' kob_method (knd := PySem.intKind _ _) PySem.F.slot_dict_pop PySem.F.type_dict_pop ?Nr ?mr ?dr ?_; (case Nr => k_asm); (case mr => k_mem); (case dr => assumption)))
  k_with "getMethod ref" => (k_here; (with_reducible show wpAny _ _ (getMethod (Value.ref _) (Str.ofString "get") _) _ _ _); k_dflt (refine' kdg_method (knd := PySem.intKind _ _) ?Nr ?mr ?dr ?_; (case Nr => k_asm); (case mr => k_mem); (case dr => assumption)))
  k_with "call builtin:dict.pop" => (k_here; (with_reducible show wpAny _ _ (call (Value.builtin "dict.pop") [Value.ref _, Value.int _ _]) _ _ _); k_dflt (refine' kob_pop (knd := PySem.intKind _ _) (more := []) ?Fr ?Nr ?Ur ?dr (intKind_is _ _ _ _) (.inl rfl) (by rfl) (PySem.F.args_dict_pop_2 _ _) ?lr ?zr ?_; (case Fr => k_asm); (case Nr => k_asm); (case Ur => k_updF); (case dr => assumption); (case lr => assumption); (case zr => assumption)); intro h'r o'r F'r N'r hd'r; (try dsimp only at N'r))
  k_with "call builtin:dict.get" => (k_here; (with_reducible show wpAny _ _ (call (Value.builtin "dict.get") [Value.ref _, Value.int _ _, _]) _ _ _); k_dflt (refine' kdg_get2 (knd := PySem.intKind _ _) ?Nr ?mr ?dr ?lr (intKind_is _ _ _ _) _ ?vr ?_; (case Nr => k_asm); (case mr => k_mem); (case dr => assumption); (case lr => assumption); (case vr => assumption)); (try dsimp only [Option.getD]))
  k_with "enter" => (refine' code_def ?k1r ?k2r ?k3r ?k4r ?k5r ?kAr ?kFr ?kKr ?k6r ?k7r ?k8r ?k9r ?kBr ?_ ?c2r ?c3r ?c4r ?c5r; (case kAr => exact rfl); (case kFr => exact rfl); (case kKr => first | exact rfl | assumption); (case k1r => k_asm); (case k2r => k_asm); (case k3r => k_asm); (case k4r => k_asm); (case k5r => k_asm); (case k6r => k_is); (case k7r => k_is); (case k8r => ktr_room); (case k9r => first | exact BindsTo.of_eq rfl | exact binds_K (by k_in) rfl (by k_is) rfl rfl rfl); (case c5r => decide); (case kBr => exact locs rfl); (case c2r => exact rfl); (case c3r => exact rfl); (case c4r => exact rfl); k_whole; intro g'r L'r h'r FG'r F'r N'r B'r X'r T'r; (try dsimp only); (try k_fold))
  trivial
theorem dcp_F {prog : Program} {w : World} {A : Around} {E : Value → Shared → Prop} {h₀ : Heap} {L : Addr} {m : Str → Option Value} {env : Env} {s : Shared} {vx iter : PySem.Expr} {a b : Str} {pk pa pb tp : Pos} {kk : Nat} {scope : Scope} {cl : List (Str × Addr)} {pos : Pos} {Q : Value → Shared → Prop} (F₀ : Fr h₀ L s.heap m)
    (hclos : closureFor scope env = pure cl) (hcell : ∀ y ∈ scope.names, y.2 ≠ .cell) (hkind : scope.kind = .function)
    (hnames : ∀ y ∈ scope.names, y.2 = .local → scope.names.lookup y.1 = some .local) (hxa : scope.names.lookup a = some .local) (hxb : scope.names.lookup b = some .local) (hab : ¬ a = b) (hdb : (a == ("__debug__" : Str)) = false)
    (h : wpAny (model prog w) A (eval iter env) (DcpSrc prog w A h₀ L m env vx a b scope cl Q) E s) (hs : ∀ x, foldedSetIterable iter env x = pure x := by intro _; rfl) :
    wpAny (model prog w) A (eval (.DictComp (.Name a pk) vx [⟨.Tuple [.Name a pa, .Name b pb] kk tp, iter, [], 0⟩] scope pos) env) Q E s := dcp_DictComp h₀ L m hclos hcell hkind hnames hxa hxb hab hdb h hs
/-- the value that stands under a key -/
noncomputable def nval (line : List Node) (k : Int) (_ : Value) : Value := match line.find? fun n => decide (n.k = k) with
  | some n => .int n.v n.vt
  | none => .none
theorem nval_of {line : List Node} (hk : (line.map Node.k).Nodup) {n : Node} (hn : n ∈ line) (v : Value) : nval line n.k v = .int n.v n.vt := by
  have : line.find? (fun x => decide (x.k = n.k)) = some n := by
    induction line with
    | nil => cases hn
    | cons x r ih =>
      simp only [List.map_cons, List.nodup_cons] at hk
      rcases List.mem_cons.mp hn with e | h2
      · subst e; simp
      · have : ¬ x.k = n.k := fun e => hk.1 (List.mem_map.mpr ⟨n, h2, e.symm⟩)
        rw [List.find?_cons_of_neg (by simpa using this)]
        exact ih hk.2 h2
  unfold nval
  rw [this]
theorem seg_mem {ga : Addr} {line : List Node} {n : Node} (hn : n ∈ line) (e : Value) : ∀ p, ∃ q r, (n.d, nodeD n.x q r n.K n.V (n.C ga)) ∈ seg ga p line e := by
  induction line with
  | nil => cases hn
  | cons x l ih =>
    intro p
    rcases List.mem_cons.mp hn with h | h
    · subst h; exact ⟨_, _, .head _⟩
    · obtain ⟨q, r, hm⟩ := ih h (.ref x.a)
      exact ⟨q, r, .tail _ hm⟩
theorem memI {α : Type} {I C D x : α} {R : List α} (hx : x ∈ R) : ∀ z, z ∈ I :: C :: D :: x :: R → z ∈ I :: C :: D :: R := by
  intro z hz; simp only [List.mem_cons] at *; grind
theorem memLedSeg {c : CFix} {st : CSt} {R : List (Addr × Obj)} {y : Addr × Obj} (h : y ∈ seg c.ga .none st.line .none) : y ∈ Led c st R := .tail _ (.tail _ (.tail _ (List.mem_append_left _ h)))
theorem items_src {w : World} {A : Around} {h₀ : Heap} {L : Addr} {m : Str → Option Value} {env : Env} {s : Shared} {vx : PySem.Expr} {a b : Str} {scope : Scope} {cl : List (Str × Addr)} {Q : Value → Shared → Prop} {c : CFix} {st : CSt} {R : List (Addr × Obj)} {v : Addr}
    (hh : A.handled = none) (F : Fr h₀ L s.heap m) (N : News h₀ L s.heap ((v, ({ cls := .type "dict_items", data := .fields #[.ref c.dc] } : Obj)) :: Led c st R)) (G : Good w c st R) (hbig : h₀.NoLimit)
    (turn : DcpTurn PySem.Challenge.rw_iy0004_01.row.prog w A h₀ L m env vx a b scope cl s (Led c st R) st.kvs (nval st.line))
    (fin : ∀ D oD h tk, (D == sysModules) = false → Fr h₀ L h m → News h₀ L h ((D, oD) :: Led c st R) → oD.IsDictOf (intKind PySem.Challenge.rw_iy0004_01.row.prog w) (accOf (nval st.line) st.kvs) → Q (.ref D) { s with heap := h, toks := tk }) :
    DcpSrc PySem.Challenge.rw_iy0004_01.row.prog w A h₀ L m env vx a b scope cl Q (.ref v) s :=
  ⟨v, c.dc, st.oc, st.kvs, Led c st R, nval st.line, rfl, hh, F, fun p hp => N p (.tail _ hp), ⟨_, (N _ (.head _)).1, rfl, rfl⟩, .tail _ (.tail _ (.head _)), G.hoc,
    by have := G.len; have := G.hroom; exact kdl_size (by lia), nodup_keys G.hkv G.hkeys, turn, hbig, fin⟩
section
variable {w : World} {p : Program} {loose : List Str} {mean : ExcName → Option Value} {mg mb : Str → Option Value}
  {dp un : Nat} {gd : Option (List Code)} {cn : Str} {cs : Scope} {a : Addr} {ccd : Value} {cl : List (Str × Addr)} {outer : List Env} {A₀ : Around} {base h₀ : Heap} {L : Addr} {m : Str → Option Value} {s : Shared} {Q E : Value → Shared → Prop}
  (B : Below A₀ base outer h₀) (F : Fr h₀ L s.heap m) (X : (hd.heap_39 w.params).In h₀) (T : Top p loose mean mg mb h₀) (hk : cs.kind = .function) (hdp : dp + 2 < recursionLimit)
include B F X T hk hdp
variable {c : CFix} {st : CSt} {R : List (Addr × Obj)} {k v : Int} {tk0 tv0 : Tok} {dv : Value}
theorem rules_LItems1 : True := by
  k_with "getMethod ref" => (k_here; (with_reducible show wpAny _ _ (getMethod (Value.ref _) (Str.ofString "items") _) _ _ _); k_dflt (refine' kdl_method (knd := PySem.intKind _ _) PySem.F.slot_dict_items PySem.F.type_dict_items ?Nr ?mr ?dr ?_; (case Nr => k_asm); (case mr => k_mem); (case dr => assumption)))
  k_with "eval DictComp" => (k_here; k_dflt (refine' dcp_F ?k0r ?k1r ?k2r ?k3r ?k4r ?k5r ?k6r ?k7r ?k8r ?_ ?k9r; (case k0r => k_asm); (case k1r => rfl); (case k2r => decide); (case k3r => rfl); (case k4r => decide); (case k5r => rfl); (case k6r => rfl); (case k7r => decide); (case k8r => decide); (case k9r => intro _; rfl)))
  trivial
set_option maxRecDepth 100000 in
set_option maxHeartbeats 4000000 in
theorem im_ok (N : News h₀ L s.heap (Led c st R)) (G : Good w c st R)
  (ret : ∀ D oD, (D == sysModules) = false → oD.IsDictOf (intKind PySem.Challenge.rw_iy0004_01.row.prog w) (accOf (nval st.line) st.kvs) → Back h₀ L m s Q (.ref D) ((D, oD) :: Led c st R)) :
  wpAny (model PySem.Challenge.rw_iy0004_01.row.prog w) (ktrTop dp un gd cn cs L a ccd cl outer) (call (.ref 114) [.ref c.ca]) Q E s := by
  revert X; k_fill; intro X
  have hoc := G.hoc
  have hdc := G.hdc
  have hca : (c.ca, instObj 175 c.cd) ∈ seg c.ga .none st.line .none ++ R := List.mem_append_right _ G.hca
  have hlen := G.len
  have hroom := G.hroom
  refine wpAny_call ?_
  k_dflt ktr_enter
  k_steps
  (rename News _ _ _ _ => N9); (rename Fr _ _ _ _ => F9)
  refine items_src rfl F9 N9 G (Top.nolimit (by assumption)) ?turn ?fin
  case fin =>
    intro D oD h tk lo F8 N8 ho
    try dsimp only
    k_steps
    exact ret D oD lo ho _ _ (by assumption) (by assumption)
  case turn =>
    intro k v hkv t I oI C oC D oD m₂ h tk E' hC ha hb F8 N8 off ne
    obtain ⟨n, hn, e⟩ := List.mem_map.mp (G.hkv.mem_iff.mp hkv)
    injection e with e1 e2
    subst e1 e2
    obtain ⟨q, r, hm⟩ := seg_mem (ga := c.ga) hn .none .none
    have hna := G.hin n hn
    have hf := nval_of G.hkeys hn (Value.ref n.a)
    have N7 := kst_newsOf N8 (l' := (I, oI) :: (C, oC) :: (D, oD) :: (n.d, nodeD n.x q r n.K n.V (n.C c.ga)) :: Led c st R) (memI (memLedSeg hm))
    have hin1 : (n.a, instObj 39 n.d) ∈ seg c.ga .none st.line .none ++ R := List.mem_append_right _ hna
    clear N9
    try dsimp only
    try k_fold
    k_steps
    · exact hf.symm
    · assumption
    · exact N8
end
end
section
-- LDeed0n
open PySem PySem.W PySem.Calls PyProof.Rows
theorem rules_LDeed0n0 : True := by
  k_with_none
  k_with "ne" => (refine neN ?_; (try dsimp only); first | assumption | (apply Ne.symm; assumption))
  k_with "tone" => (refine neN ?_; (try dsimp only); first | assumption | (apply Ne.symm; assumption))
  k_with "mem" => assumption
  k_with "subscriptTail" => (k_here; (with_reducible show wpAny _ _ (subscriptTail _ _ (Value.ref _) (Value.int _ _)) _ _ _); k_dflt (refine' kda_item (knd := PySem.intKind _ _) ?Nr ?mr ?dr (intKind_is _ _ _ _) ?vr ?_; (case Nr => k_asm); (case mr => k_mem); (case dr => assumption); (case vr => assumption)))
  k_with "getItem ref int" => (k_here; k_dflt (refine' gi_sym ?Nr ?mr ?dr ?vr ?_; (case Nr => k_asm); (case mr => k_mem); (case dr => assumption); (case vr => assumption); k_whole))
  k_with "call builtin:len" => (k_here; (with_reducible show wpAny _ _ (call (Value.builtin "len") [Value.ref _]) _ _ _); k_dflt (refine' kda_len (knd := PySem.intKind _ _) ?Nr ?mr ?dr ?lr ?zr ?_; (case Nr => k_asm); (case mr => k_mem); (case dr => assumption); (case lr => assumption); (case zr => first | assumption | lia); k_whole))
  k_with "compareOp In int ref" => (k_here; k_dflt (first
    | (refine' kda_in (knd := PySem.intKind _ _) ?Nr ?mr ?dr ?lr (intKind_is _ _ _ _) true ?br ?_; (case Nr => k_asm); (case mr => k_mem); (case dr => assumption); (case lr => assumption); (case br => exact Option.isSome_iff_exists.mpr ⟨_, by assumption⟩); k_whole)
    | (refine' kda_in (knd := PySem.intKind _ _) ?Nr ?mr ?dr ?lr (intKind_is _ _ _ _) false ?br ?_; (case Nr => k_asm); (case mr => k_mem); (case dr => assumption); (case lr => assumption); (case br => exact Option.isSome_eq_false_iff.mpr (Option.isNone_iff_eq_none.mpr (by assumption))); k_whole)))
  k_with "setItem ref int" => (k_here; k_dflt (refine' kda_set (knd := PySem.intKind _ _) ?Fr ?Nr ?Ur ?dr (intKind_is _ _ _ _) ?zr ?_; (case Fr => k_asm); (case Nr => k_asm); (case Ur => k_updF); (case dr => assumption); (case zr => assumption)); intro h'r o'r F'r N'r hd'r; (try dsimp only at N'r))
  k_with "getMethod ref" => (k_here; (with_reducible show wpAny _ _ (getMethod (Value.ref _) (Str.ofString "pop") _) _ _ _); k_dflt (refine' kob_method (knd := PySem.intKind _ _) PySem.F.slot_dict_pop PySem.F.type_dict_pop ?Nr ?mr ?dr ?_; (case Nr => k_asm); (case mr => k_mem); (case dr => assumption)))
  k_with "getMethod ref" => (k_here; (with_reducible show wpAny _ _ (getMethod (Value.ref _) (Str.ofString "get") _) _ _ _); k_dflt (refine' kdg_method (knd := PySem.intKind _ _) ?Nr ?mr ?dr ?_; (case Nr => k_asm); (case mr => k_mem); (case dr => assumption)))
  k_with "call builtin:dict.pop" => (k_here; (with_reducible show wpAny _ _ (call (Value.builtin "dict.pop") [Value.ref _, Value.int _ _]) _ _ _); k_dflt (refine' kob_pop (knd := PySem.intKind _ _) (more := []) ?Fr ?Nr ?Ur ?dr (intKind_is _ _ _ _) (.inl rfl) (by rfl) (PySem.F.args_dict_pop_2 _ _) ?lr ?zr ?_; (case Fr => k_asm); (case Nr => k_asm); (case Ur => k_updF); (case dr => assumption); (case lr => assumption); (case zr => assumption)); intro h'r o'r F'r N'r hd'r; (try dsimp only at N'r))
  k_with "call builtin:dict.get" => (k_here; (with_reducible show wpAny _ _ (call (Value.builtin "dict.get") [Value.ref _, Value.int _ _, _]) _ _ _); k_dflt (refine' kdg_get2 (knd := PySem.intKind _ _) ?Nr ?mr ?dr ?lr (intKind_is _ _ _ _) _ ?vr ?_; (case Nr => k_asm); (case mr => k_mem); (case dr => assumption); (case lr => assumption); (case vr => assumption)); (try dsimp only [Option.getD]))
  k_with "enter" => (refine' code_def ?k1r ?k2r ?k3r ?k4r ?k5r ?kAr ?kFr ?kKr ?k6r ?k7r ?k8r ?k9r ?kBr ?_ ?c2r ?c3r ?c4r ?c5r; (case kAr => exact rfl); (case kFr => exact rfl); (case kKr => first | exact rfl | assumption); (case k1r => k_asm); (case k2r => k_asm); (case k3r => k_asm); (case k4r => k_asm); (case k5r => k_asm); (case k6r => k_is); (case k7r => k_is); (case k8r => ktr_room); (case k9r => first | exact BindsTo.of_eq rfl | exact binds_K (by k_in) rfl (by k_is) rfl rfl rfl); (case c5r => decide); (case kBr => exact locs rfl); (case c2r => exact rfl); (case c3r => exact rfl); (case c4r => exact rfl); k_whole; intro g'r L'r h'r FG'r F'r N'r B'r X'r T'r; (try dsimp only); (try k_fold))
  k_with "callWith ref" => (k_here; k_dflt (refine' callWith_F ?k1r ?_; (case k1r => exact FnAt.of (by k_asm) (by k_mem)); k_whole))
  trivial
section
variable {w : World} {p : Program} {loose : List Str} {mean : ExcName → Option Value} {mg mb : Str → Option Value} {g : Heap} {x : LawFix} {fa : Addr} {s : Shared} {Q : Flow → Shared → Prop} {E : Value → Shared → Prop} {cst : CSt} {lst : LSt} {R : List (Addr × Obj)} {i : Nat} {m : Str → Option Value} {zt yt t1 t2 t3 t4 : Tok} {q key fresh : Int}
  (B : Below callerA g [] g) (X : (hd.heap_39 w.params).In g) (T : Top p loose mean mg mb g)
  (hG : GoneSpec w p loose mean mg mb x.c.ga x.c.ol x.c.S₀) (hU : UseSpec w p loose mean mg mb x.ua x.lc x.Su) (hD : DropSpec w p loose mean mg mb x.da x.lc x.Sd)
include B X T hG hU hD
theorem rules_LDeed0n1 : True := by
  k_with "mem" => exact List.mem_append_right _ (by assumption)
  k_with "call ref" => (k_here; (with_reducible show wpAny _ _ (call (Value.ref 87) _ _) _ _ _); (rename Inv _ _ _ _ _ _ => I9r); (rename News _ _ _ _ => N9r); k_dflt (refine' add_newT ?gAr ?gBr ?gCr ?gDr rfl ?gEr (kst_newsOf N9r ledLC) (Inv.G I9r) ?gFr ?g7r ?g8r ?g9r ?gar ?_; (case gAr => k_asm); (case gBr => k_asm); (case gCr => k_asm); (case gDr => k_asm); (case gEr => ktr_room); (case gFr => assumption); (case g7r => exact I9r.hy.1); (case g8r => exact I9r.hl); (case g9r => assumption); (case gar => lia)); intro cst8r X8r hv8r G8r h9r tk9r F9r N8r; (have N7r := kst_newsOf (kst_newsOf N8r ledX) ledCL); clear N9r N8r; (have S8r := (Inv.S I9r).mono (X := X8r)); (have P8r := (Inv.P I9r).mono (X := X8r)); (have D8r := nodupL1 G8r (Inv.P I9r) I9r.S.gS); (obtain ⟨d81, d82, d83, d84⟩ := nd3L D8r); (obtain ⟨ua1, ua2, ua3, ua4, ufn8⟩ := S8r.ufn); (have mh8r := S8r.mheld); (have ml8r := S8r.mline); (have md8r := S8r.mdue); (try dsimp only); (try k_fold))
  k_with "call builtin:list.insert" => (k_here; (with_reducible show wpAny _ _ (call (Value.builtin _) [Value.ref _, Value.int _ _, _]) _ _ _); k_dflt (refine' kl_insert0 ?Fr ?Nr ?Ur ?zr ?_; (case Fr => k_asm); (case Nr => k_asm); (case Ur => k_upd); (case zr => assumption)); intro h'r F'r N'r; (try dsimp only at N'r))
  k_with "call ref" => (k_here; (rename DropSpec _ _ _ _ _ _ _ _ _ => hD9r); (rename Stat _ (_ :: _) => S9r); k_dflt (refine' hD9r _ _ _ _ _ _ _ _ _ _ _ _ _ _ _ _ _ _ _ _ _ _ ?p1r ?p2r ?p3r ?p4r ?p5r ?pkr ?p6r ?p7r ?p8r ?p9r ?par ?pbr ?_; (case p1r => k_asm); (case p2r => k_asm); (case p3r => k_asm); (case p4r => assumption); (case p5r => k_asm); (case pkr => rfl); (case p6r => ktr_room); (case p7r => exact fun y hy => memLed (S9r.dS y hy)); (case par => assumption); (case p8r => exact fun y hy => memLed hy); (case p9r => assumption); (case pbr => first | assumption | lia | decide)); intro lst9r X9r he9r ho9r P9r nd9r h9r tk9r F9r N9r; (try dsimp only); (try k_fold))
  k_with "call builtin:len" => (k_here; (with_reducible show wpAny _ _ (call (Value.builtin "len") [Value.ref _]) _ _ _); k_dflt (refine' kst_len ?k1r ?k2r ?k3r ?k4r ?_; (case k1r => k_asm); (case k2r => k_mem); (case k3r => assumption); (case k4r => lia)); k_whole)
  trivial
set_option maxRecDepth 100000 in
set_option maxHeartbeats 4000000 in
theorem deed0_out (hi : i ≤ 64) (F : Fr g x.L s.heap (deedMap x cst.size cst.stay zt yt 0 q key fresh t1 t2 t3 t4 m)) (N : News g x.L s.heap (LedC x cst lst R)) (I : Inv w x cst lst R i) (hkey : key ∉ cst.line.map Node.k) (h07 : 0 ≤ key ∧ key < 7) :
  wpAny (model PySem.Challenge.rw_iy0004_01.row.prog w) (callerA.deeper (envOfC (Str.ofString "law") lawScope x.L fa (.ref 183))) (exec deedIf (envOfC (Str.ofString "law") lawScope x.L fa (.ref 183))) (DeedEnd w x g s R (i + 1) key) E s := by
  revert X; k_fill; intro X
  have es : lawScope = Scope.mk _ _ _ _ _ := rfl
  have eb : deedIf = Stmt.If _ _ _ _ := rfl
  rw [es, eb]
  clear es eb
  have hsz := I.sizes hi
  have hy0 := I.hy
  have hv := lvalueAt_none I.P.hkv (I.neither hkey)
  have hoh := I.P.hoh
  have hha := I.P.hha
  have hdl := I.P.len
  have hll : (lvals lst.ents).length = lst.ents.length := by simp [lvals]
  have hz1 : (lvals lst.ents).length ≤ sizeLine := by rw [hll, sizeLine_eq]; lia
  have hz2 : lst.hkvs.length ≤ sizeLine := by rw [hdl, sizeLine_eq]; lia
  have vheld := I.S.vheld
  have vline := I.S.vline
  have hca := I.ca
  have N1 := kst_newsOf N ledCL
  clear N
  k_steps
  (rename News _ _ _ _ => N2); (rename Obj.IsDictOf _ _ (stored _ _ _) => ho2); (rename Inv _ _ _ _ _ _ => I); (rename absS _ = vadd _ _ _ _ => hv8); (rename Good _ _ _ (_ ++ _) => G8); (rename LGood _ _ _ (_ ++ _) => P8); (rename Stat _ (_ ++ _) => S8); (rename List.Nodup (Ads (LLed _ _ _)) => D8); (rename _ ∧ _ ∧ _ ∧ _ ∧ _ ∧ _ ∧ AllLt _ _ => l9); (rename PySem.Obj => o9); (rename CSt => cst8); (rename List (Addr × Obj) => X8)
  obtain ⟨t9, N2, l9, ho2⟩ := ex_news (o := tup2 (.int fresh t4) (.bool true)) (rest := fun t => (x.lc.la, listOf (Value.int key t3 :: lvals lst.ents).toArray (lst.ln + 1)) :: (x.lc.da, listOf (refsOf lst.dues).toArray lst.dn) :: (x.lc.ha, o9) :: Led x.c cst8 (X8 ++ R)) (P := fun t => Over t x cst8 (X8 ++ R) ∧ o9.IsDictOf (intKind PySem.Challenge.rw_iy0004_01.row.prog w) (stored lst.hkvs key (.ref t))) N2 ⟨l9, ho2⟩
  have P3 : LGood w x.lc ⟨⟨key, t3, fresh, t4, true, t9⟩ :: lst.ents, o9, stored lst.hkvs key (.ref t9), lst.dues, lst.ln + 1, lst.dn⟩ ((t9, tup2 (.int fresh t4) (.bool true)) :: (X8 ++ R)) := (P8.more (fun y hy => .tail _ hy)).ins (e := ⟨key, t3, fresh, t4, true, t9⟩) (I.neither hkey) ho2 (.head _) (by lia)
  have D3 := nodupP (lst' := ⟨⟨key, t3, fresh, t4, true, t9⟩ :: lst.ents, o9, stored lst.hkvs key (.ref t9), lst.dues, lst.ln + 1, lst.dn⟩) (o := tup2 (.int fresh t4) (.bool true)) (Over.off (lst := lst) l9) D8
  have N3 := kst_newsOf N2 (ledP1 (x := x) (cst := cst8) (lst := ⟨⟨key, t3, fresh, t4, true, t9⟩ :: lst.ents, o9, stored lst.hkvs key (.ref t9), lst.dues, lst.ln + 1, lst.dn⟩) (R := X8 ++ R) (t := (t9, tup2 (.int fresh t4) (.bool true))))
  have S4 : Stat x ((t9, tup2 (.int fresh t4) (.bool true)) :: (X8 ++ R)) := S8.sub fun y hy => .tail _ hy
  obtain ⟨da1, da2, da3, da4, dfn⟩ := S4.dfn
  have ml4 := S4.mline
  have hy1 := I.hy.1
  clear N2
  refine' hU _ _ _ _ _ _ _ _ _ _ _ _ _ _ _ _ _ ⟨⟨key, t3, fresh, t4, true, t9⟩ :: lst.ents, o9, stored lst.hkvs key (.ref t9), lst.dues, lst.ln + 1, lst.dn⟩ [] lst.ents ⟨key, t3, fresh, t4, true, t9⟩ key t3 _ ?p1 ?p2 ?p3 N3 ?p5 ?pk ?p6 ?p7 D3 rfl rfl ?pa ?pb ?_
  case p1 => k_asm
  case p2 => k_asm
  case p3 => k_asm
  case p5 => k_asm
  case pk => rfl
  case p6 => ktr_room
  case p7 => exact fun y hy => memLed (S4.uS y hy)
  case pa => exact fun y hy => absurd hy List.not_mem_nil
  case pb => simp only [List.length_cons]; lia
  intro h9 tk9 F9 N9
  obtain ⟨lst2, N4, P4, D4, e1, e2⟩ : ∃ lst2 : LSt, News g x.L h9 (LedL x cst8 lst2 ((t9, tup2 (.int fresh t4) (.bool true)) :: (X8 ++ R))) ∧ LGood w x.lc lst2 ((t9, tup2 (.int fresh t4) (.bool true)) :: (X8 ++ R)) ∧ (Ads (LLed x.lc lst2 (Led x.c cst8 ((t9, tup2 (.int fresh t4) (.bool true)) :: (X8 ++ R))))).Nodup ∧ absE lst2.ents = (key, fresh, true) :: absE lst.ents ∧ lst2.dues = lst.dues := ⟨_, N9, P3.touch (pre := []) rfl t3 _, D3, rfl, rfl⟩
  have hlr : (lvals lst2.ents).length = cst.line.length + 1 := by
    have := congrArg List.length e1
    simp only [absE, List.length_map, List.length_cons] at this
    simp only [lvals, List.length_map]
    lia
  clear N9 N3
  try dsimp only
  try k_fold
  k_steps
  · (rename LGood _ _ _ (_ ++ _) => P9); (rename absE _ = List.take _ _ => he9); (rename absO _ = _ ++ goneAll _ => ho9); (rename List.Nodup (Ads (LLed _ _ (_ ++ _))) => nd9)
    exact DeedEnd.intro (by assumption) ⟨rfl, ⟨_, congrArg (fun v : Int => some (Value.int v zt)) (size_add hv8).symm⟩, ⟨_, congrArg (fun v : Int => some (Value.int v yt)) (stay_add hv8).symm⟩, rfl, rfl, rfl⟩ rfl (kst_newsOf (by assumption) ledY) (I.addNew hkey h07 hv8 G8 (.inr ⟨by lia, by rw [he9, e1], by rw [ho9, e2, e1]⟩) P9 (fun y hy => List.mem_append_right _ (.tail _ hy)) (nodupLC nd9)) (fun y hy => List.mem_append_right _ (.tail _ (List.mem_append_right _ hy)))
  · exact DeedEnd.intro (by assumption) ⟨rfl, ⟨_, congrArg (fun v : Int => some (Value.int v zt)) (size_add hv8).symm⟩, ⟨_, congrArg (fun v : Int => some (Value.int v yt)) (stay_add hv8).symm⟩, rfl, rfl, rfl⟩ rfl (kst_newsOf (by assumption) ledLC) (I.addNew hkey h07 hv8 G8 (.inl ⟨by lia, e1, by rw [e2]⟩) P4 (fun y hy => .tail _ hy) (ndL D4)) (fun y hy => .tail _ (List.mem_append_right _ hy))
end
end
section
-- LDeed0o
open PySem PySem.W PySem.Calls PyProof.Rows
theorem rules_LDeed0o0 : True := by
  k_with_none
  k_with "ne" => (refine neN ?_; (try dsimp only); first | assumption | (apply Ne.symm; assumption))
  k_with "tone" => (refine neN ?_; (try dsimp only); first | assumption | (apply Ne.symm; assumption))
  k_with "mem" => assumption
  k_with "subscriptTail" => (k_here; (with_reducible show wpAny _ _ (subscriptTail _ _ (Value.ref _) (Value.int _ _)) _ _ _); k_dflt (refine' kda_item (knd := PySem.intKind _ _) ?Nr ?mr ?dr (intKind_is _ _ _ _) ?vr ?_; (case Nr => k_asm); (case mr => k_mem); (case dr => assumption); (case vr => assumption)))
  k_with "getItem ref int" => (k_here; k_dflt (refine' gi_sym ?Nr ?mr ?dr ?vr ?_; (case Nr => k_asm); (case mr => k_mem); (case dr => assumption); (case vr => assumption); k_whole))
  k_with "call builtin:len" => (k_here; (with_reducible show wpAny _ _ (call (Value.builtin "len") [Value.ref _]) _ _ _); k_dflt (refine' kda_len (knd := PySem.intKind _ _) ?Nr ?mr ?dr ?lr ?zr ?_; (case Nr => k_asm); (case mr => k_mem); (case dr => assumption); (case lr => assumption); (case zr => first | assumption | lia); k_whole))
  k_with "compareOp In int ref" => (k_here; k_dflt (first
    | (refine' kda_in (knd := PySem.intKind _ _) ?Nr ?mr ?dr ?lr (intKind_is _ _ _ _) true ?br ?_; (case Nr => k_asm); (case mr => k_mem); (case dr => assumption); (case lr => assumption); (case br => exact Option.isSome_iff_exists.mpr ⟨_, by assumption⟩); k_whole)
    | (refine' kda_in (knd := PySem.intKind _ _) ?Nr ?mr ?dr ?lr (intKind_is _ _ _ _) false ?br ?_; (case Nr => k_asm); (case mr => k_mem); (case dr => assumption); (case lr => assumption); (case br => exact Option.isSome_eq_false_iff.mpr (Option.isNone_iff_eq_none.mpr (by assumption))); k_whole)))
  k_with "setItem ref int" => (k_here; k_dflt (refine' kda_set (knd := PySem.intKind _ _) ?Fr ?Nr ?Ur ?dr (intKind_is _ _ _ _) ?zr ?_; (case Fr => k_asm); (case Nr => k_asm); (case Ur => k_updF); (case dr => assumption); (case zr => assumption)); intro h'r o'r F'r N'r hd'r; (try dsimp only at N'r))
  k_with "getMethod ref" => (k_here; (with_reducible show wpAny _ _ (getMethod (Value.ref _) (Str.ofString "pop") _) _ _ _); k_dflt (refine' kob_method (knd := PySem.intKind _ _) PySem.F.slot_dict_pop PySem.F.type_dict_pop ?Nr ?mr ?dr ?_; (case Nr => k_asm); (case mr => k_mem); (case dr => assumption)))
  k_with "getMethod ref" => (k_here; (with_reducible show wpAny _ _ (getMethod (Value.ref _) (Str.ofString "get") _) _ _ _); k_dflt (refine' kdg_method (knd := PySem.intKind _ _) ?Nr ?mr ?dr ?_; (case Nr => k_asm); (case mr => k_mem); (case dr => assumption)))
  k_with "call builtin:dict.pop" => (k_here; (with_reducible show wpAny _ _ (call (Value.builtin "dict.pop") [Value.ref _, Value.int _ _]) _ _ _); k_dflt (refine' kob_pop (knd := PySem.intKind _ _) (more := []) ?Fr ?Nr ?Ur ?dr (intKind_is _ _ _ _) (.inl rfl) (by rfl) (PySem.F.args_dict_pop_2 _ _) ?lr ?zr ?_; (case Fr => k_asm); (case Nr => k_asm); (case Ur => k_updF); (case dr => assumption); (case lr => assumption); (case zr => assumption)); intro h'r o'r F'r N'r hd'r; (try dsimp only at N'r))
  k_with "call builtin:dict.get" => (k_here; (with_reducible show wpAny _ _ (call (Value.builtin "dict.get") [Value.ref _, Value.int _ _, _]) _ _ _); k_dflt (refine' kdg_get2 (knd := PySem.intKind _ _) ?Nr ?mr ?dr ?lr (intKind_is _ _ _ _) _ ?vr ?_; (case Nr => k_asm); (case mr => k_mem); (case dr => assumption); (case lr => assumption); (case vr => assumption)); (try dsimp only [Option.getD]))
  k_with "enter" => (refine' code_def ?k1r ?k2r ?k3r ?k4r ?k5r ?kAr ?kFr ?kKr ?k6r ?k7r ?k8r ?k9r ?kBr ?_ ?c2r ?c3r ?c4r ?c5r; (case kAr => exact rfl); (case kFr => exact rfl); (case kKr => first | exact rfl | assumption); (case k1r => k_asm); (case k2r => k_asm); (case k3r => k_asm); (case k4r => k_asm); (case k5r => k_asm); (case k6r => k_is); (case k7r => k_is); (case k8r => ktr_room); (case k9r => first | exact BindsTo.of_eq rfl | exact binds_K (by k_in) rfl (by k_is) rfl rfl rfl); (case c5r => decide); (case kBr => exact locs rfl); (case c2r => exact rfl); (case c3r => exact rfl); (case c4r => exact rfl); k_whole; intro g'r L'r h'r FG'r F'r N'r B'r X'r T'r; (try dsimp only); (try k_fold))
  k_with "callWith ref" => (k_here; k_dflt (refine' callWith_F ?k1r ?_; (case k1r => exact FnAt.of (by k_asm) (by k_mem)); k_whole))
  trivial
section
variable {w : World} {p : Program} {loose : List Str} {mean : ExcName → Option Value} {mg mb : Str → Option Value} {g : Heap} {x : LawFix} {fa : Addr} {s : Shared} {Q : Flow → Shared → Prop} {E : Value → Shared → Prop} {cst : CSt} {lst : LSt} {R : List (Addr × Obj)} {i : Nat} {m : Str → Option Value} {zt yt t1 t2 t3 t4 : Tok} {q key fresh : Int}
  (B : Below callerA g [] g) (X : (hd.heap_39 w.params).In g) (T : Top p loose mean mg mb g)
  (hG : GoneSpec w p loose mean mg mb x.c.ga x.c.ol x.c.S₀) (hU : UseSpec w p loose mean mg mb x.ua x.lc x.Su) (hD : DropSpec w p loose mean mg mb x.da x.lc x.Sd)
include B X T hG hU hD
theorem rules_LDeed0o1 : True := by
  k_with "mem" => exact List.mem_append_right _ (by assumption)
  k_with "mem" => (first | assumption | exact List.mem_append_right _ (by assumption) | exact List.mem_append_right _ (List.mem_append_right _ (by assumption)))
  k_with "call ref" => (k_here; (with_reducible show wpAny _ _ (call (Value.ref 87) _ _) _ _ _); (rename Inv _ _ _ _ _ _ => I9r); (rename News _ _ _ _ => N9r); k_dflt (refine' add_oldT ?gAr ?gBr ?gCr ?gDr rfl ?gEr (kst_newsOf N9r ledLC) (Inv.G I9r) ?gFr ?g8r ?g9r ?gar ?_; (case gAr => k_asm); (case gBr => k_asm); (case gCr => k_asm); (case gDr => k_asm); (case gEr => ktr_room); (case gFr => assumption); (case g8r => assumption); (case g9r => exact I9r.hl); (case gar => lia)); intro cst8r X8r hv8r G8r h9r tk9r F9r N8r; (have N7r := kst_newsOf (kst_newsOf N8r ledX) ledCL); clear N9r N8r; (have S8r := (Inv.S I9r).mono (X := X8r)); (have P8r := (Inv.P I9r).mono (X := X8r)); (have D8r := nodupL1 G8r (Inv.P I9r) I9r.S.gS); (obtain ⟨d81, d82, d83, d84⟩ := nd3L D8r); (obtain ⟨ua1, ua2, ua3, ua4, ufn8⟩ := S8r.ufn); (have mh8r := S8r.mheld); (have ml8r := S8r.mline); (have md8r := S8r.mdue); (rename (_, tup2 _ _) ∈ _ => m9r); (have tup8r := List.mem_append_right X8r m9r); (try dsimp only); (try k_fold))
  k_with "call builtin:list.insert" => (k_here; (with_reducible show wpAny _ _ (call (Value.builtin _) [Value.ref _, Value.int _ _, _]) _ _ _); k_dflt (refine' kl_insert0 ?Fr ?Nr ?Ur ?zr ?_; (case Fr => k_asm); (case Nr => k_asm); (case Ur => k_upd); (case zr => assumption)); intro h'r F'r N'r; (try dsimp only at N'r))
  k_with "call ref" => (k_here; (rename DropSpec _ _ _ _ _ _ _ _ _ => hD9r); (rename Stat _ (_ :: _) => S9r); k_dflt (refine' hD9r _ _ _ _ _ _ _ _ _ _ _ _ _ _ _ _ _ _ _ _ _ _ ?p1r ?p2r ?p3r ?p4r ?p5r ?pkr ?p6r ?p7r ?p8r ?p9r ?par ?pbr ?_; (case p1r => k_asm); (case p2r => k_asm); (case p3r => k_asm); (case p4r => assumption); (case p5r => k_asm); (case pkr => rfl); (case p6r => ktr_room); (case p7r => exact fun y hy => memLed (S9r.dS y hy)); (case par => assumption); (case p8r => exact fun y hy => memLed hy); (case p9r => assumption); (case pbr => first | assumption | lia | decide)); intro lst9r X9r he9r ho9r P9r nd9r h9r tk9r F9r N9r; (try dsimp only); (try k_fold))
  k_with "call builtin:len" => (k_here; (with_reducible show wpAny _ _ (call (Value.builtin "len") [Value.ref _]) _ _ _); k_dflt (refine' kst_len ?k1r ?k2r ?k3r ?k4r ?_; (case k1r => k_asm); (case k2r => k_mem); (case k3r => assumption); (case k4r => lia)); k_whole)
  trivial
set_option maxRecDepth 100000 in
set_option maxHeartbeats 4000000 in
theorem deed0_in (hi : i ≤ 64) (F : Fr g x.L s.heap (deedMap x cst.size cst.stay zt yt 0 q key fresh t1 t2 t3 t4 m)) (N : News g x.L s.heap (LedC x cst lst R)) (I : Inv w x cst lst R i) (hkey : key ∈ cst.line.map Node.k) (h07 : 0 ≤ key ∧ key < 7) :
  wpAny (model PySem.Challenge.rw_iy0004_01.row.prog w) (callerA.deeper (envOfC (Str.ofString "law") lawScope x.L fa (.ref 183))) (exec deedIf (envOfC (Str.ofString "law") lawScope x.L fa (.ref 183))) (DeedEnd w x g s R (i + 1) key) E s := by
  revert X; k_fill; intro X
  have es : lawScope = Scope.mk _ _ _ _ _ := rfl
  have eb : deedIf = Stmt.If _ _ _ _ := rfl
  rw [es, eb]
  clear es eb
  obtain ⟨pre, n, post, pre', kt, vt, t, post', rfl, h1, h3, h4, h5⟩ := I.both hkey
  have hsz := I.sizes hi
  have hy0 := I.hy
  have hl0 := I.hl
  have hv : valueAt lst.hkvs n.k = some (Value.ref t) := I.P.val (e := ⟨n.k, kt, n.v, vt, n.f, t⟩) (by rw [h3]; simp)
  have htup : (t, tup2 (.int n.v vt) (.bool n.f)) ∈ R := I.P.htup ⟨n.k, kt, n.v, vt, n.f, t⟩ (by rw [h3]; simp)
  have hoh := I.P.hoh
  have hha := I.P.hha
  have hdl := I.P.len
  have hll : (lvals lst.ents).length = lst.ents.length := by simp [lvals]
  have hz1 : (lvals lst.ents).length ≤ sizeLine := by rw [hll, sizeLine_eq]; lia
  have hz2 : lst.hkvs.length ≤ sizeLine := by rw [hdl, sizeLine_eq]; lia
  have hz3 : (refsOf lst.dues).length ≤ 4096 := by simp only [refsOf, List.length_map]; lia
  have vheld := I.S.vheld
  have vline := I.S.vline
  have vdue := I.S.vdue
  have hca := I.ca
  have N1 := kst_newsOf N ledCL
  clear N
  cases hf : n.f with
  | false =>
    rw [hf] at htup
    k_steps
    (rename News _ _ _ _ => N2); (rename Obj.IsDictOf _ _ (stored _ _ _) => ho2); (rename Inv _ _ _ _ _ _ => I); (rename absS _ = vadd _ _ _ _ => hv8); (rename Good _ _ _ (_ ++ _) => G8); (rename LGood _ _ _ (_ ++ _) => P8); (rename Stat _ (_ ++ _) => S8); (rename List.Nodup (Ads (LLed _ _ _)) => D8); (rename _ ∧ _ ∧ _ ∧ _ ∧ _ ∧ _ ∧ AllLt _ _ => l9); (rename PySem.Obj => o9); (rename CSt => cst8); (rename List (Addr × Obj) => X8)
    obtain ⟨t9, N2, l9, ho2⟩ : ∃ t9 : Addr, News g x.L _ ((t9, tup2 (.int fresh t4) (.bool true)) :: (x.lc.la, listOf (lvals lst.ents).toArray lst.ln) :: (x.lc.da, listOf (refsOf lst.dues).toArray lst.dn) :: (x.lc.ha, o9) :: Led x.c cst8 (X8 ++ R)) ∧ Over t9 x cst8 (X8 ++ R) ∧ o9.IsDictOf (intKind PySem.Challenge.rw_iy0004_01.row.prog w) (stored lst.hkvs n.k (.ref t9)) := ⟨_, N2, l9, ho2⟩
    have elv : lvals lst.ents = lvals (pre' ++ ⟨n.k, kt, fresh, t4, true, t9⟩ :: post') := by rw [h3]; simp [lvals]
    rw [elv] at N2
    have hin : ∀ y ∈ X8 ++ R, y ∈ (t9, tup2 (.int fresh t4) (.bool true)) :: (X8 ++ R) := fun y hy => .tail _ hy
    have P3 : LGood w x.lc ⟨pre' ++ ⟨n.k, kt, fresh, t4, true, t9⟩ :: post', o9, stored lst.hkvs n.k (.ref t9), lst.dues, lst.ln, lst.dn⟩ ((t9, tup2 (.int fresh t4) (.bool true)) :: (X8 ++ R)) := P8.put0 (e' := ⟨n.k, kt, fresh, t4, true, t9⟩) h3 rfl ho2 hin (.head _)
    have D3 := nodupP (lst' := ⟨pre' ++ ⟨n.k, kt, fresh, t4, true, t9⟩ :: post', o9, stored lst.hkvs n.k (.ref t9), lst.dues, lst.ln, lst.dn⟩) (o := tup2 (.int fresh t4) (.bool true)) (Over.off (lst := lst) l9) D8
    have N3 := kst_newsOf N2 (ledP1 (x := x) (cst := cst8) (lst := ⟨pre' ++ ⟨n.k, kt, fresh, t4, true, t9⟩ :: post', o9, stored lst.hkvs n.k (.ref t9), lst.dues, lst.ln, lst.dn⟩) (R := X8 ++ R) (t := (t9, tup2 (.int fresh t4) (.bool true))))
    have S4 : Stat x ((t9, tup2 (.int fresh t4) (.bool true)) :: (X8 ++ R)) := S8.sub hin
    have ml4 := S4.mline
    clear N2
    refine' hU _ _ _ _ _ _ _ _ _ _ _ _ _ _ _ _ _ ⟨pre' ++ ⟨n.k, kt, fresh, t4, true, t9⟩ :: post', o9, stored lst.hkvs n.k (.ref t9), lst.dues, lst.ln, lst.dn⟩ pre' post' ⟨n.k, kt, fresh, t4, true, t9⟩ n.k t3 _ ?p1 ?p2 ?p3 N3 ?p5 ?pk ?p6 ?p7 D3 rfl rfl h5 ?pb ?_
    case p1 => k_asm
    case p2 => k_asm
    case p3 => k_asm
    case p5 => k_asm
    case pk => rfl
    case p6 => ktr_room
    case p7 => exact fun y hy => memLed (S4.uS y hy)
    case pb => have hle := congrArg List.length h3; simp only [List.length_append, List.length_cons] at hle ⊢; lia
    intro h9 tk9 F9 N9
    obtain ⟨lst2, N4, P4, D4, e1, e2⟩ : ∃ lst2 : LSt, News g x.L h9 (LedL x cst8 lst2 ((t9, tup2 (.int fresh t4) (.bool true)) :: (X8 ++ R))) ∧ LGood w x.lc lst2 ((t9, tup2 (.int fresh t4) (.bool true)) :: (X8 ++ R)) ∧ (Ads (LLed x.lc lst2 (Led x.c cst8 ((t9, tup2 (.int fresh t4) (.bool true)) :: (X8 ++ R))))).Nodup ∧ absE lst2.ents = (n.k, fresh, true) :: absE (pre' ++ post') ∧ lst2.dues = lst.dues := ⟨_, N9, P3.touch (pre := pre') rfl t3 _, D3, rfl, rfl⟩
    have hlr : (lvals lst2.ents).length = cst.line.length := by
      have h6 := congrArg List.length e1
      have h7 := congrArg List.length h3
      simp only [absE, List.length_map, List.length_cons, List.length_append] at h6 h7
      simp only [lvals, List.length_map]
      lia
    clear N9 N3
    try dsimp only
    try k_fold
    k_steps
    exact DeedEnd.intro (by assumption) ⟨rfl, ⟨_, congrArg (fun v : Int => some (Value.int v zt)) (size_add hv8).symm⟩, ⟨_, congrArg (fun v : Int => some (Value.int v yt)) (stay_add hv8).symm⟩, rfl, rfl, rfl⟩ rfl (kst_newsOf (by assumption) ledLC) (I.addOld h1 h4 hv8 G8 e1 (by rw [e2]; simp [goneOf, hf, absO]) P4 hin (ndL D4)) (fun y hy => hin y (List.mem_append_right _ hy))
  | true =>
    rw [hf] at htup
    k_steps
    (rename News _ _ _ _ => N2); (rename Obj.IsDictOf _ _ (stored _ _ _) => ho2); (rename Inv _ _ _ _ _ _ => I); (rename absS _ = vadd _ _ _ _ => hv8); (rename Good _ _ _ (_ ++ _) => G8); (rename LGood _ _ _ (_ ++ _) => P8); (rename Stat _ (_ ++ _) => S8); (rename List.Nodup (Ads (LLed _ _ _)) => D8); (rename _ ∧ _ ∧ _ ∧ _ ∧ _ ∧ _ ∧ AllLt _ _ => l8); (rename _ ∧ _ ∧ _ ∧ _ ∧ _ ∧ _ ∧ _ ∧ AllLt _ _ => l9); (rename PySem.Obj => o9); (rename CSt => cst8); (rename List (Addr × Obj) => X8)
    simp only [List.push_toArray] at N2
    obtain ⟨t9, t8, N2, l9, l8, ho2⟩ : ∃ t9 t8 : Addr, News g x.L _ ((t9, tup2 (.int fresh t4) (.bool true)) :: (t8, tup2 (.int n.k t3) (.int n.v vt)) :: (x.lc.la, listOf (lvals lst.ents).toArray lst.ln) :: (x.lc.da, listOf (refsOf lst.dues ++ [Value.ref t8]).toArray (lst.dn + 1)) :: (x.lc.ha, o9) :: Led x.c cst8 (X8 ++ R)) ∧ (@LT.lt Nat _ t8 t9 ∧ Over t9 x cst8 (X8 ++ R)) ∧ Over t8 x cst8 (X8 ++ R) ∧ o9.IsDictOf (intKind PySem.Challenge.rw_iy0004_01.row.prog w) (stored lst.hkvs n.k (.ref t9)) := ⟨_, _, N2, l9, l8, ho2⟩
    have elv : lvals lst.ents = lvals (pre' ++ ⟨n.k, kt, fresh, t4, true, t9⟩ :: post') := by rw [h3]; simp [lvals]
    have ed : (refsOf lst.dues ++ [Value.ref t8]) = refsOf (lst.dues ++ [(⟨t8, n.k, t3, n.v, vt⟩ : Tup)]) := by simp [refsOf]
    rw [elv, ed] at N2
    have hin : ∀ y ∈ X8 ++ R, y ∈ (t9, tup2 (.int fresh t4) (.bool true)) :: (t8, tup2 (.int n.k t3) (.int n.v vt)) :: (X8 ++ R) := fun y hy => .tail _ (.tail _ hy)
    have P3 : LGood w x.lc ⟨pre' ++ ⟨n.k, kt, fresh, t4, true, t9⟩ :: post', o9, stored lst.hkvs n.k (.ref t9), lst.dues ++ [⟨t8, n.k, t3, n.v, vt⟩], lst.ln, lst.dn + 1⟩ ((t9, tup2 (.int fresh t4) (.bool true)) :: (t8, tup2 (.int n.k t3) (.int n.v vt)) :: (X8 ++ R)) := P8.put (e' := ⟨n.k, kt, fresh, t4, true, t9⟩) h3 rfl ho2 hin (.head _) (fun u hu => by rw [List.mem_singleton.mp hu]; exact .tail _ (.head _)) (by simp only [List.length_cons, List.length_nil]; lia)
    have D2 := nodupP (lst' := lst) (o := tup2 (.int n.k t3) (.int n.v vt)) (Over.off (lst := lst) l8) D8
    have D3 := nodupP (lst' := ⟨pre' ++ ⟨n.k, kt, fresh, t4, true, t9⟩ :: post', o9, stored lst.hkvs n.k (.ref t9), lst.dues ++ [⟨t8, n.k, t3, n.v, vt⟩], lst.ln, lst.dn + 1⟩) (o := tup2 (.int fresh t4) (.bool true)) (Over.off1 (lst := lst) (Over.off l9.2) l9.1) D2
    have N3 := kst_newsOf N2 (ledP2 (x := x) (cst := cst8) (lst := ⟨pre' ++ ⟨n.k, kt, fresh, t4, true, t9⟩ :: post', o9, stored lst.hkvs n.k (.ref t9), lst.dues ++ [⟨t8, n.k, t3, n.v, vt⟩], lst.ln, lst.dn + 1⟩) (R := X8 ++ R) (t := (t9, tup2 (.int fresh t4) (.bool true))) (t1 := (t8, tup2 (.int n.k t3) (.int n.v vt))))
    have S4 : Stat x ((t9, tup2 (.int fresh t4) (.bool true)) :: (t8, tup2 (.int n.k t3) (.int n.v vt)) :: (X8 ++ R)) := S8.sub hin
    have ml4 := S4.mline
    clear N2
    refine' hU _ _ _ _ _ _ _ _ _ _ _ _ _ _ _ _ _ ⟨pre' ++ ⟨n.k, kt, fresh, t4, true, t9⟩ :: post', o9, stored lst.hkvs n.k (.ref t9), lst.dues ++ [⟨t8, n.k, t3, n.v, vt⟩], lst.ln, lst.dn + 1⟩ pre' post' ⟨n.k, kt, fresh, t4, true, t9⟩ n.k t3 _ ?p1 ?p2 ?p3 N3 ?p5 ?pk ?p6 ?p7 D3 rfl rfl h5 ?pb ?_
    case p1 => k_asm
    case p2 => k_asm
    case p3 => k_asm
    case p5 => k_asm
    case pk => rfl
    case p6 => ktr_room
    case p7 => exact fun y hy => memLed (S4.uS y hy)
    case pb => have hle := congrArg List.length h3; simp only [List.length_append, List.length_cons] at hle ⊢; lia
    intro h9 tk9 F9 N9
    obtain ⟨lst2, N4, P4, D4, e1, e2⟩ : ∃ lst2 : LSt, News g x.L h9 (LedL x cst8 lst2 ((t9, tup2 (.int fresh t4) (.bool true)) :: (t8, tup2 (.int n.k t3) (.int n.v vt)) :: (X8 ++ R))) ∧ LGood w x.lc lst2 ((t9, tup2 (.int fresh t4) (.bool true)) :: (t8, tup2 (.int n.k t3) (.int n.v vt)) :: (X8 ++ R)) ∧ (Ads (LLed x.lc lst2 (Led x.c cst8 ((t9, tup2 (.int fresh t4) (.bool true)) :: (t8, tup2 (.int n.k t3) (.int n.v vt)) :: (X8 ++ R))))).Nodup ∧ absE lst2.ents = (n.k, fresh, true) :: absE (pre' ++ post') ∧ lst2.dues = lst.dues ++ [⟨t8, n.k, t3, n.v, vt⟩] := ⟨_, N9, P3.touch (pre := pre') rfl t3 _, D3, rfl, rfl⟩
    have hlr : (lvals lst2.ents).length = cst.line.length := by
      have h6 := congrArg List.length e1
      have h7 := congrArg List.length h3
      simp only [absE, List.length_map, List.length_cons, List.length_append] at h6 h7
      simp only [lvals, List.length_map]
      lia
    clear N9 N3
    try dsimp only
    try k_fold
    k_steps
    exact DeedEnd.intro (by assumption) ⟨rfl, ⟨_, congrArg (fun v : Int => some (Value.int v zt)) (size_add hv8).symm⟩, ⟨_, congrArg (fun v : Int => some (Value.int v yt)) (stay_add hv8).symm⟩, rfl, rfl, rfl⟩ rfl (kst_newsOf (by assumption) ledLC) (I.addOld h1 h4 hv8 G8 e1 (by rw [e2]; simp [goneOf, hf, absO]) P4 hin (ndL D4)) (fun y hy => hin y (List.mem_append_right _ hy))
end
end
section
-- LDeed1n
open PySem PySem.W PySem.Calls PyProof.Rows
theorem rules_LDeed1n0 : True := by
  k_with_none
  k_with "ne" => (refine neN ?_; (try dsimp only); first | assumption | (apply Ne.symm; assumption))
  k_with "tone" => (refine neN ?_; (try dsimp only); first | assumption | (apply Ne.symm; assumption))
  k_with "mem" => assumption
  k_with "subscriptTail" => (k_here; (with_reducible show wpAny _ _ (subscriptTail _ _ (Value.ref _) (Value.int _ _)) _ _ _); k_dflt (refine' kda_item (knd := PySem.intKind _ _) ?Nr ?mr ?dr (intKind_is _ _ _ _) ?vr ?_; (case Nr => k_asm); (case mr => k_mem); (case dr => assumption); (case vr => assumption)))
  k_with "getItem ref int" => (k_here; k_dflt (refine' gi_sym ?Nr ?mr ?dr ?vr ?_; (case Nr => k_asm); (case mr => k_mem); (case dr => assumption); (case vr => assumption); k_whole))
  k_with "call builtin:len" => (k_here; (with_reducible show wpAny _ _ (call (Value.builtin "len") [Value.ref _]) _ _ _); k_dflt (refine' kda_len (knd := PySem.intKind _ _) ?Nr ?mr ?dr ?lr ?zr ?_; (case Nr => k_asm); (case mr => k_mem); (case dr => assumption); (case lr => assumption); (case zr => first | assumption | lia); k_whole))
  k_with "compareOp In int ref" => (k_here; k_dflt (first
    | (refine' kda_in (knd := PySem.intKind _ _) ?Nr ?mr ?dr ?lr (intKind_is _ _ _ _) true ?br ?_; (case Nr => k_asm); (case mr => k_mem); (case dr => assumption); (case lr => assumption); (case br => exact Option.isSome_iff_exists.mpr ⟨_, by assumption⟩); k_whole)
    | (refine' kda_in (knd := PySem.intKind _ _) ?Nr ?mr ?dr ?lr (intKind_is _ _ _ _) false ?br ?_; (case Nr => k_asm); (case mr => k_mem); (case dr => assumption); (case lr => assumption); (case br => exact Option.isSome_eq_false_iff.mpr (Option.isNone_iff_eq_none.mpr (by assumption))); k_whole)))
  k_with "setItem ref int" => (k_here; k_dflt (refine' kda_set (knd := PySem.intKind _ _) ?Fr ?Nr ?Ur ?dr (intKind_is _ _ _ _) ?zr ?_; (case Fr => k_asm); (case Nr => k_asm); (case Ur => k_updF); (case dr => assumption); (case zr => assumption)); intro h'r o'r F'r N'r hd'r; (try dsimp only at N'r))
  k_with "getMethod ref" => (k_here; (with_reducible show wpAny _ _ (getMethod (Value.ref _) (Str.ofString "pop") _) _ _ _); k_dflt (refine' kob_method (knd := PySem.intKind _ _) PySem.F.slot_dict_pop PySem.F.type_dict_pop ?Nr ?mr ?dr ?_; (case Nr => k_asm); (case mr => k_mem); (case dr => assumption)))
  k_with "getMethod ref" => (k_here; (with_reducible show wpAny _ _ (getMethod (Value.ref _) (Str.ofString "get") _) _ _ _); k_dflt (refine' kdg_method (knd := PySem.intKind _ _) ?Nr ?mr ?dr ?_; (case Nr => k_asm); (case mr => k_mem); (case dr => assumption)))
  k_with "call builtin:dict.pop" => (k_here; (with_reducible show wpAny _ _ (call (Value.builtin "dict.pop") [Value.ref _, Value.int _ _]) _ _ _); k_dflt (refine' kob_pop (knd := PySem.intKind _ _) (more := []) ?Fr ?Nr ?Ur ?dr (intKind_is _ _ _ _) (.inl rfl) (by rfl) (PySem.F.args_dict_pop_2 _ _) ?lr ?zr ?_; (case Fr => k_asm); (case Nr => k_asm); (case Ur => k_updF); (case dr => assumption); (case lr => assumption); (case zr => assumption)); intro h'r o'r F'r N'r hd'r; (try dsimp only at N'r))
  k_with "call builtin:dict.get" => (k_here; (with_reducible show wpAny _ _ (call (Value.builtin "dict.get") [Value.ref _, Value.int _ _, _]) _ _ _); k_dflt (refine' kdg_get2 (knd := PySem.intKind _ _) ?Nr ?mr ?dr ?lr (intKind_is _ _ _ _) _ ?vr ?_; (case Nr => k_asm); (case mr => k_mem); (case dr => assumption); (case lr => assumption); (case vr => assumption)); (try dsimp only [Option.getD]))
  k_with "enter" => (refine' code_def ?k1r ?k2r ?k3r ?k4r ?k5r ?kAr ?kFr ?kKr ?k6r ?k7r ?k8r ?k9r ?kBr ?_ ?c2r ?c3r ?c4r ?c5r; (case kAr => exact rfl); (case kFr => exact rfl); (case kKr => first | exact rfl | assumption); (case k1r => k_asm); (case k2r => k_asm); (case k3r => k_asm); (case k4r => k_asm); (case k5r => k_asm); (case k6r => k_is); (case k7r => k_is); (case k8r => ktr_room); (case k9r => first | exact BindsTo.of_eq rfl | exact binds_K (by k_in) rfl (by k_is) rfl rfl rfl); (case c5r => decide); (case kBr => exact locs rfl); (case c2r => exact rfl); (case c3r => exact rfl); (case c4r => exact rfl); k_whole; intro g'r L'r h'r FG'r F'r N'r B'r X'r T'r; (try dsimp only); (try k_fold))
  k_with "callWith ref" => (k_here; k_dflt (refine' callWith_F ?k1r ?_; (case k1r => exact FnAt.of (by k_asm) (by k_mem)); k_whole))
  trivial
section
variable {w : World} {p : Program} {loose : List Str} {mean : ExcName → Option Value} {mg mb : Str → Option Value} {g : Heap} {x : LawFix} {fa : Addr} {s : Shared} {Q : Flow → Shared → Prop} {E : Value → Shared → Prop} {cst : CSt} {lst : LSt} {R : List (Addr × Obj)} {i : Nat} {m : Str → Option Value} {zt yt t1 t2 t3 t4 : Tok} {q key fresh : Int}
  (B : Below callerA g [] g) (X : (hd.heap_39 w.params).In g) (T : Top p loose mean mg mb g)
  (hG : GoneSpec w p loose mean mg mb x.c.ga x.c.ol x.c.S₀) (hU : UseSpec w p loose mean mg mb x.ua x.lc x.Su) (hD : DropSpec w p loose mean mg mb x.da x.lc x.Sd)
include B X T hG hU hD
theorem rules_LDeed1n1 : True := by
  k_with "mem" => exact List.mem_append_right _ (by assumption)
  k_with "call ref" => (k_here; (with_reducible show wpAny _ _ (call (Value.ref 87) _ _) _ _ _); (rename Inv _ _ _ _ _ _ => I9r); (rename News _ _ _ _ => N9r); k_dflt (refine' add_newF ?gAr ?gBr ?gCr ?gDr rfl ?gEr (kst_newsOf N9r ledLC) (Inv.G I9r) ?gFr ?g7r ?g8r ?g9r ?gar ?_; (case gAr => k_asm); (case gBr => k_asm); (case gCr => k_asm); (case gDr => k_asm); (case gEr => ktr_room); (case gFr => assumption); (case g7r => exact I9r.hy.1); (case g8r => exact I9r.hl); (case g9r => assumption); (case gar => lia)); intro cst8r X8r hv8r G8r h9r tk9r F9r N8r; (have N7r := kst_newsOf (kst_newsOf N8r ledX) ledCL); clear N9r N8r; (have S8r := (Inv.S I9r).mono (X := X8r)); (have P8r := (Inv.P I9r).mono (X := X8r)); (have D8r := nodupL1 G8r (Inv.P I9r) I9r.S.gS); (obtain ⟨d81, d82, d83, d84⟩ := nd3L D8r); (obtain ⟨ua1, ua2, ua3, ua4, ufn8⟩ := S8r.ufn); (have mh8r := S8r.mheld); (have ml8r := S8r.mline); (have md8r := S8r.mdue); (try dsimp only); (try k_fold))
  k_with "call builtin:list.insert" => (k_here; (with_reducible show wpAny _ _ (call (Value.builtin _) [Value.ref _, Value.int _ _, _]) _ _ _); k_dflt (refine' kl_insert0 ?Fr ?Nr ?Ur ?zr ?_; (case Fr => k_asm); (case Nr => k_asm); (case Ur => k_upd); (case zr => assumption)); intro h'r F'r N'r; (try dsimp only at N'r))
  k_with "call ref" => (k_here; (rename DropSpec _ _ _ _ _ _ _ _ _ => hD9r); (rename Stat _ (_ :: _) => S9r); k_dflt (refine' hD9r _ _ _ _ _ _ _ _ _ _ _ _ _ _ _ _ _ _ _ _ _ _ ?p1r ?p2r ?p3r ?p4r ?p5r ?pkr ?p6r ?p7r ?p8r ?p9r ?par ?pbr ?_; (case p1r => k_asm); (case p2r => k_asm); (case p3r => k_asm); (case p4r => assumption); (case p5r => k_asm); (case pkr => rfl); (case p6r => ktr_room); (case p7r => exact fun y hy => memLed (S9r.dS y hy)); (case par => assumption); (case p8r => exact fun y hy => memLed hy); (case p9r => assumption); (case pbr => first | assumption | lia | decide)); intro lst9r X9r he9r ho9r P9r nd9r h9r tk9r F9r N9r; (try dsimp only); (try k_fold))
  k_with "call builtin:len" => (k_here; (with_reducible show wpAny _ _ (call (Value.builtin "len") [Value.ref _]) _ _ _); k_dflt (refine' kst_len ?k1r ?k2r ?k3r ?k4r ?_; (case k1r => k_asm); (case k2r => k_mem); (case k3r => assumption); (case k4r => lia)); k_whole)
  trivial
set_option maxRecDepth 100000 in
set_option maxHeartbeats 4000000 in
theorem deed1_out (hi : i ≤ 64) (F : Fr g x.L s.heap (deedMap x cst.size cst.stay zt yt 1 q key fresh t1 t2 t3 t4 m)) (N : News g x.L s.heap (LedC x cst lst R)) (I : Inv w x cst lst R i) (hkey : key ∉ cst.line.map Node.k) (h07 : 0 ≤ key ∧ key < 7) :
  wpAny (model PySem.Challenge.rw_iy0004_01.row.prog w) (callerA.deeper (envOfC (Str.ofString "law") lawScope x.L fa (.ref 183))) (exec deedIf (envOfC (Str.ofString "law") lawScope x.L fa (.ref 183))) (DeedEnd w x g s R (i + 1) key) E s := by
  revert X; k_fill; intro X
  have es : lawScope = Scope.mk _ _ _ _ _ := rfl
  have eb : deedIf = Stmt.If _ _ _ _ := rfl
  rw [es, eb]
  clear es eb
  have hsz := I.sizes hi
  have hy0 := I.hy
  have hv := lvalueAt_none I.P.hkv (I.neither hkey)
  have hoh := I.P.hoh
  have hha := I.P.hha
  have hdl := I.P.len
  have hll : (lvals lst.ents).length = lst.ents.length := by simp [lvals]
  have hz1 : (lvals lst.ents).length ≤ sizeLine := by rw [hll, sizeLine_eq]; lia
  have hz2 : lst.hkvs.length ≤ sizeLine := by rw [hdl, sizeLine_eq]; lia
  have vheld := I.S.vheld
  have vline := I.S.vline
  have hca := I.ca
  have N1 := kst_newsOf N ledCL
  clear N
  k_steps
  (rename News _ _ _ _ => N2); (rename Obj.IsDictOf _ _ (stored _ _ _) => ho2); (rename Inv _ _ _ _ _ _ => I); (rename absS _ = vadd _ _ _ _ => hv8); (rename Good _ _ _ (_ ++ _) => G8); (rename LGood _ _ _ (_ ++ _) => P8); (rename Stat _ (_ ++ _) => S8); (rename List.Nodup (Ads (LLed _ _ _)) => D8); (rename _ ∧ _ ∧ _ ∧ _ ∧ _ ∧ _ ∧ AllLt _ _ => l9); (rename PySem.Obj => o9); (rename CSt => cst8); (rename List (Addr × Obj) => X8)
  obtain ⟨t9, N2, l9, ho2⟩ := ex_news (o := tup2 (.int fresh t4) (.bool false)) (rest := fun t => (x.lc.la, listOf (Value.int key t3 :: lvals lst.ents).toArray (lst.ln + 1)) :: (x.lc.da, listOf (refsOf lst.dues).toArray lst.dn) :: (x.lc.ha, o9) :: Led x.c cst8 (X8 ++ R)) (P := fun t => Over t x cst8 (X8 ++ R) ∧ o9.IsDictOf (intKind PySem.Challenge.rw_iy0004_01.row.prog w) (stored lst.hkvs key (.ref t))) N2 ⟨l9, ho2⟩
  have P3 : LGood w x.lc ⟨⟨key, t3, fresh, t4, false, t9⟩ :: lst.ents, o9, stored lst.hkvs key (.ref t9), lst.dues, lst.ln + 1, lst.dn⟩ ((t9, tup2 (.int fresh t4) (.bool false)) :: (X8 ++ R)) := (P8.more (fun y hy => .tail _ hy)).ins (e := ⟨key, t3, fresh, t4, false, t9⟩) (I.neither hkey) ho2 (.head _) (by lia)
  have D3 := nodupP (lst' := ⟨⟨key, t3, fresh, t4, false, t9⟩ :: lst.ents, o9, stored lst.hkvs key (.ref t9), lst.dues, lst.ln + 1, lst.dn⟩) (o := tup2 (.int fresh t4) (.bool false)) (Over.off (lst := lst) l9) D8
  have N3 := kst_newsOf N2 (ledP1 (x := x) (cst := cst8) (lst := ⟨⟨key, t3, fresh, t4, false, t9⟩ :: lst.ents, o9, stored lst.hkvs key (.ref t9), lst.dues, lst.ln + 1, lst.dn⟩) (R := X8 ++ R) (t := (t9, tup2 (.int fresh t4) (.bool false))))
  have S4 : Stat x ((t9, tup2 (.int fresh t4) (.bool false)) :: (X8 ++ R)) := S8.sub fun y hy => .tail _ hy
  obtain ⟨da1, da2, da3, da4, dfn⟩ := S4.dfn
  have ml4 := S4.mline
  have hy1 := I.hy.1
  clear N2
  refine' hU _ _ _ _ _ _ _ _ _ _ _ _ _ _ _ _ _ ⟨⟨key, t3, fresh, t4, false, t9⟩ :: lst.ents, o9, stored lst.hkvs key (.ref t9), lst.dues, lst.ln + 1, lst.dn⟩ [] lst.ents ⟨key, t3, fresh, t4, false, t9⟩ key t3 _ ?p1 ?p2 ?p3 N3 ?p5 ?pk ?p6 ?p7 D3 rfl rfl ?pa ?pb ?_
  case p1 => k_asm
  case p2 => k_asm
  case p3 => k_asm
  case p5 => k_asm
  case pk => rfl
  case p6 => ktr_room
  case p7 => exact fun y hy => memLed (S4.uS y hy)
  case pa => exact fun y hy => absurd hy List.not_mem_nil
  case pb => simp only [List.length_cons]; lia
  intro h9 tk9 F9 N9
  obtain ⟨lst2, N4, P4, D4, e1, e2⟩ : ∃ lst2 : LSt, News g x.L h9 (LedL x cst8 lst2 ((t9, tup2 (.int fresh t4) (.bool false)) :: (X8 ++ R))) ∧ LGood w x.lc lst2 ((t9, tup2 (.int fresh t4) (.bool false)) :: (X8 ++ R)) ∧ (Ads (LLed x.lc lst2 (Led x.c cst8 ((t9, tup2 (.int fresh t4) (.bool false)) :: (X8 ++ R))))).Nodup ∧ absE lst2.ents = (key, fresh, false) :: absE lst.ents ∧ lst2.dues = lst.dues := ⟨_, N9, P3.touch (pre := []) rfl t3 _, D3, rfl, rfl⟩
  have hlr : (lvals lst2.ents).length = cst.line.length + 1 := by
    have := congrArg List.length e1
    simp only [absE, List.length_map, List.length_cons] at this
    simp only [lvals, List.length_map]
    lia
  clear N9 N3
  try dsimp only
  try k_fold
  k_steps
  · (rename LGood _ _ _ (_ ++ _) => P9); (rename absE _ = List.take _ _ => he9); (rename absO _ = _ ++ goneAll _ => ho9); (rename List.Nodup (Ads (LLed _ _ (_ ++ _))) => nd9)
    exact DeedEnd.intro (by assumption) ⟨rfl, ⟨_, congrArg (fun v : Int => some (Value.int v zt)) (size_add hv8).symm⟩, ⟨_, congrArg (fun v : Int => some (Value.int v yt)) (stay_add hv8).symm⟩, rfl, rfl, rfl⟩ rfl (kst_newsOf (by assumption) ledY) (I.addNew hkey h07 hv8 G8 (.inr ⟨by lia, by rw [he9, e1], by rw [ho9, e2, e1]⟩) P9 (fun y hy => List.mem_append_right _ (.tail _ hy)) (nodupLC nd9)) (fun y hy => List.mem_append_right _ (.tail _ (List.mem_append_right _ hy)))
  · exact DeedEnd.intro (by assumption) ⟨rfl, ⟨_, congrArg (fun v : Int => some (Value.int v zt)) (size_add hv8).symm⟩, ⟨_, congrArg (fun v : Int => some (Value.int v yt)) (stay_add hv8).symm⟩, rfl, rfl, rfl⟩ rfl (kst_newsOf (by assumption) ledLC) (I.addNew hkey h07 hv8 G8 (.inl ⟨by lia, e1, by rw [e2]⟩) P4 (fun y hy => .tail _ hy) (ndL D4)) (fun y hy => .tail _ (List.mem_append_right _ hy))
end
end
section
-- LDeed1o
open PySem PySem.W PySem.Calls PyProof.Rows
theorem rules_LDeed1o0 : True := by
  k_with_none
  k_with "ne" => (refine neN ?_; (try dsimp only); first | assumption | (apply Ne.symm; assumption))
  k_with "tone" => (refine neN ?_; (try dsimp only); first | assumption | (apply Ne.symm; assumption))
  k_with "mem" => assumption
  k_with "subscriptTail" => (k_here; (with_reducible show wpAny _ _ (subscriptTail _ _ (Value.ref _) (Value.int _ _)) _ _ _); k_dflt (refine' kda_item (knd := PySem.intKind _ _) ?Nr ?mr ?dr (intKind_is _ _ _ _) ?vr ?_; (case Nr => k_asm); (case mr => k_mem); (case dr => assumption); (case vr => assumption)))
  k_with "getItem ref int" => (k_here; k_dflt (refine' gi_sym ?Nr ?mr ?dr ?vr ?_; (case Nr => k_asm); (case mr => k_mem); (case dr => assumption); (case vr => assumption); k_whole))
  k_with "call builtin:len" => (k_here; (with_reducible show wpAny _ _ (call (Value.builtin "len") [Value.ref _]) _ _ _); k_dflt (refine' kda_len (knd := PySem.intKind _ _) ?Nr ?mr ?dr ?lr ?zr ?_; (case Nr => k_asm); (case mr => k_mem); (case dr => assumption); (case lr => assumption); (case zr => first | assumption | lia); k_whole))
  k_with "compareOp In int ref" => (k_here; k_dflt (first
    | (refine' kda_in (knd := PySem.intKind _ _) ?Nr ?mr ?dr ?lr (intKind_is _ _ _ _) true ?br ?_; (case Nr => k_asm); (case mr => k_mem); (case dr => assumption); (case lr => assumption); (case br => exact Option.isSome_iff_exists.mpr ⟨_, by assumption⟩); k_whole)
    | (refine' kda_in (knd := PySem.intKind _ _) ?Nr ?mr ?dr ?lr (intKind_is _ _ _ _) false ?br ?_; (case Nr => k_asm); (case mr => k_mem); (case dr => assumption); (case lr => assumption); (case br => exact Option.isSome_eq_false_iff.mpr (Option.isNone_iff_eq_none.mpr (by assumption))); k_whole)))
  k_with "setItem ref int" => (k_here; k_dflt (refine' kda_set (knd := PySem.intKind _ _) ?Fr ?Nr ?Ur ?dr (intKind_is _ _ _ _) ?zr ?_; (case Fr => k_asm); (case Nr => k_asm); (case Ur => k_updF); (case dr => assumption); (case zr => assumption)); intro h'r o'r F'r N'r hd'r; (try dsimp only at N'r))
  k_with "getMethod ref" => (k_here; (with_reducible show wpAny _ _ (getMethod (Value.ref _) (Str.ofString "pop") _) _ _ _); k_dflt (refine' kob_method (knd := PySem.intKind _ _) PySem.F.slot_dict_pop PySem.F.type_dict_pop ?Nr ?mr ?dr ?_; (case Nr => k_asm); (case mr => k_mem); (case dr => assumption)))
  k_with "getMethod ref" => (k_here; (with_reducible show wpAny _ _ (getMethod (Value.ref _) (Str.ofString "get") _) _ _ _); k_dflt (refine' kdg_method (knd := PySem.intKind _ _) ?Nr ?mr ?dr ?_; (case Nr => k_asm); (case mr => k_mem); (case dr => assumption)))
  k_with "call builtin:dict.pop" => (k_here; (with_reducible show wpAny _ _ (call (Value.builtin "dict.pop") [Value.ref _, Value.int _ _]) _ _ _); k_dflt (refine' kob_pop (knd := PySem.intKind _ _) (more := []) ?Fr ?Nr ?Ur ?dr (intKind_is _ _ _ _) (.inl rfl) (by rfl) (PySem.F.args_dict_pop_2 _ _) ?lr ?zr ?_; (case Fr => k_asm); (case Nr => k_asm); (case Ur => k_updF); (case dr => assumption); (case lr => assumption); (case zr => assumption)); intro h'r o'r F'r N'r hd'r; (try dsimp only at N'r))
  k_with "call builtin:dict.get" => (k_here; (with_reducible show wpAny _ _ (call (Value.builtin "dict.get") [Value.ref _, Value.int _ _, _]) _ _ _); k_dflt (refine' kdg_get2 (knd := PySem.intKind _ _) ?Nr ?mr ?dr ?lr (intKind_is _ _ _ _) _ ?vr ?_; (case Nr => k_asm); (case mr => k_mem); (case dr => assumption); (case lr => assumption); (case vr => assumption)); (try dsimp only [Option.getD]))
  k_with "enter" => (refine' code_def ?k1r ?k2r ?k3r ?k4r ?k5r ?kAr ?kFr ?kKr ?k6r ?k7r ?k8r ?k9r ?kBr ?_ ?c2r ?c3r ?c4r ?c5r; (case kAr => exact rfl); (case kFr => exact rfl); (case kKr => first | exact rfl | assumption); (case k1r => k_asm); (case k2r => k_asm); (case k3r => k_asm); (case k4r => k_asm); (case k5r => k_asm); (case k6r => k_is); (case k7r => k_is); (case k8r => ktr_room); (case k9r => first | exact BindsTo.of_eq rfl | exact binds_K (by k_in) rfl (by k_is) rfl rfl rfl); (case c5r => decide); (case kBr => exact locs rfl); (case c2r => exact rfl); (case c3r => exact rfl); (case c4r => exact rfl); k_whole; intro g'r L'r h'r FG'r F'r N'r B'r X'r T'r; (try dsimp only); (try k_fold))
  k_with "callWith ref" => (k_here; k_dflt (refine' callWith_F ?k1r ?_; (case k1r => exact FnAt.of (by k_asm) (by k_mem)); k_whole))
  trivial
section
variable {w : World} {p : Program} {loose : List Str} {mean : ExcName → Option Value} {mg mb : Str → Option Value} {g : Heap} {x : LawFix} {fa : Addr} {s : Shared} {Q : Flow → Shared → Prop} {E : Value → Shared → Prop} {cst : CSt} {lst : LSt} {R : List (Addr × Obj)} {i : Nat} {m : Str → Option Value} {zt yt t1 t2 t3 t4 : Tok} {q key fresh : Int}
  (B : Below callerA g [] g) (X : (hd.heap_39 w.params).In g) (T : Top p loose mean mg mb g)
  (hG : GoneSpec w p loose mean mg mb x.c.ga x.c.ol x.c.S₀) (hU : UseSpec w p loose mean mg mb x.ua x.lc x.Su) (hD : DropSpec w p loose mean mg mb x.da x.lc x.Sd)
include B X T hG hU hD
theorem rules_LDeed1o1 : True := by
  k_with "mem" => exact List.mem_append_right _ (by assumption)
  k_with "mem" => (first | assumption | exact List.mem_append_right _ (by assumption) | exact List.mem_append_right _ (List.mem_append_right _ (by assumption)))
  k_with "call ref" => (k_here; (with_reducible show wpAny _ _ (call (Value.ref 87) _ _) _ _ _); (rename Inv _ _ _ _ _ _ => I9r); (rename News _ _ _ _ => N9r); k_dflt (refine' add_oldF ?gAr ?gBr ?gCr ?gDr rfl ?gEr (kst_newsOf N9r ledLC) (Inv.G I9r) ?gFr ?g8r ?g9r ?gar ?_; (case gAr => k_asm); (case gBr => k_asm); (case gCr => k_asm); (case gDr => k_asm); (case gEr => ktr_room); (case gFr => assumption); (case g8r => assumption); (case g9r => exact I9r.hl); (case gar => lia)); intro cst8r X8r hv8r G8r h9r tk9r F9r N8r; (have N7r := kst_newsOf (kst_newsOf N8r ledX) ledCL); clear N9r N8r; (have S8r := (Inv.S I9r).mono (X := X8r)); (have P8r := (Inv.P I9r).mono (X := X8r)); (have D8r := nodupL1 G8r (Inv.P I9r) I9r.S.gS); (obtain ⟨d81, d82, d83, d84⟩ := nd3L D8r); (obtain ⟨ua1, ua2, ua3, ua4, ufn8⟩ := S8r.ufn); (have mh8r := S8r.mheld); (have ml8r := S8r.mline); (have md8r := S8r.mdue); (rename (_, tup2 _ _) ∈ _ => m9r); (have tup8r := List.mem_append_right X8r m9r); (try dsimp only); (try k_fold))
  k_with "call builtin:list.insert" => (k_here; (with_reducible show wpAny _ _ (call (Value.builtin _) [Value.ref _, Value.int _ _, _]) _ _ _); k_dflt (refine' kl_insert0 ?Fr ?Nr ?Ur ?zr ?_; (case Fr => k_asm); (case Nr => k_asm); (case Ur => k_upd); (case zr => assumption)); intro h'r F'r N'r; (try dsimp only at N'r))
  k_with "call ref" => (k_here; (rename DropSpec _ _ _ _ _ _ _ _ _ => hD9r); (rename Stat _ (_ :: _) => S9r); k_dflt (refine' hD9r _ _ _ _ _ _ _ _ _ _ _ _ _ _ _ _ _ _ _ _ _ _ ?p1r ?p2r ?p3r ?p4r ?p5r ?pkr ?p6r ?p7r ?p8r ?p9r ?par ?pbr ?_; (case p1r => k_asm); (case p2r => k_asm); (case p3r => k_asm); (case p4r => assumption); (case p5r => k_asm); (case pkr => rfl); (case p6r => ktr_room); (case p7r => exact fun y hy => memLed (S9r.dS y hy)); (case par => assumption); (case p8r => exact fun y hy => memLed hy); (case p9r => assumption); (case pbr => first | assumption | lia | decide)); intro lst9r X9r he9r ho9r P9r nd9r h9r tk9r F9r N9r; (try dsimp only); (try k_fold))
  k_with "call builtin:len" => (k_here; (with_reducible show wpAny _ _ (call (Value.builtin "len") [Value.ref _]) _ _ _); k_dflt (refine' kst_len ?k1r ?k2r ?k3r ?k4r ?_; (case k1r => k_asm); (case k2r => k_mem); (case k3r => assumption); (case k4r => lia)); k_whole)
  trivial
set_option maxRecDepth 100000 in
set_option maxHeartbeats 4000000 in
theorem deed1_in (hi : i ≤ 64) (F : Fr g x.L s.heap (deedMap x cst.size cst.stay zt yt 1 q key fresh t1 t2 t3 t4 m)) (N : News g x.L s.heap (LedC x cst lst R)) (I : Inv w x cst lst R i) (hkey : key ∈ cst.line.map Node.k) (h07 : 0 ≤ key ∧ key < 7) :
  wpAny (model PySem.Challenge.rw_iy0004_01.row.prog w) (callerA.deeper (envOfC (Str.ofString "law") lawScope x.L fa (.ref 183))) (exec deedIf (envOfC (Str.ofString "law") lawScope x.L fa (.ref 183))) (DeedEnd w x g s R (i + 1) key) E s := by
  revert X; k_fill; intro X
  have es : lawScope = Scope.mk _ _ _ _ _ := rfl
  have eb : deedIf = Stmt.If _ _ _ _ := rfl
  rw [es, eb]
  clear es eb
  obtain ⟨pre, n, post, pre', kt, vt, t, post', rfl, h1, h3, h4, h5⟩ := I.both hkey
  have hsz := I.sizes hi
  have hy0 := I.hy
  have hl0 := I.hl
  have hv : valueAt lst.hkvs n.k = some (Value.ref t) := I.P.val (e := ⟨n.k, kt, n.v, vt, n.f, t⟩) (by rw [h3]; simp)
  have htup : (t, tup2 (.int n.v vt) (.bool n.f)) ∈ R := I.P.htup ⟨n.k, kt, n.v, vt, n.f, t⟩ (by rw [h3]; simp)
  have hoh := I.P.hoh
  have hha := I.P.hha
  have hdl := I.P.len
  have hll : (lvals lst.ents).length = lst.ents.length := by simp [lvals]
  have hz1 : (lvals lst.ents).length ≤ sizeLine := by rw [hll, sizeLine_eq]; lia
  have hz2 : lst.hkvs.length ≤ sizeLine := by rw [hdl, sizeLine_eq]; lia
  have hz3 : (refsOf lst.dues).length ≤ 4096 := by simp only [refsOf, List.length_map]; lia
  have vheld := I.S.vheld
  have vline := I.S.vline
  have vdue := I.S.vdue
  have hca := I.ca
  have N1 := kst_newsOf N ledCL
  clear N
  cases hf : n.f with
  | false =>
    rw [hf] at htup
    k_steps
    (rename News _ _ _ _ => N2); (rename Obj.IsDictOf _ _ (stored _ _ _) => ho2); (rename Inv _ _ _ _ _ _ => I); (rename absS _ = vadd _ _ _ _ => hv8); (rename Good _ _ _ (_ ++ _) => G8); (rename LGood _ _ _ (_ ++ _) => P8); (rename Stat _ (_ ++ _) => S8); (rename List.Nodup (Ads (LLed _ _ _)) => D8); (rename _ ∧ _ ∧ _ ∧ _ ∧ _ ∧ _ ∧ AllLt _ _ => l9); (rename PySem.Obj => o9); (rename CSt => cst8); (rename List (Addr × Obj) => X8)
    obtain ⟨t9, N2, l9, ho2⟩ : ∃ t9 : Addr, News g x.L _ ((t9, tup2 (.int fresh t4) (.bool false)) :: (x.lc.la, listOf (lvals lst.ents).toArray lst.ln) :: (x.lc.da, listOf (refsOf lst.dues).toArray lst.dn) :: (x.lc.ha, o9) :: Led x.c cst8 (X8 ++ R)) ∧ Over t9 x cst8 (X8 ++ R) ∧ o9.IsDictOf (intKind PySem.Challenge.rw_iy0004_01.row.prog w) (stored lst.hkvs n.k (.ref t9)) := ⟨_, N2, l9, ho2⟩
    have elv : lvals lst.ents = lvals (pre' ++ ⟨n.k, kt, fresh, t4, false, t9⟩ :: post') := by rw [h3]; simp [lvals]
    rw [elv] at N2
    have hin : ∀ y ∈ X8 ++ R, y ∈ (t9, tup2 (.int fresh t4) (.bool false)) :: (X8 ++ R) := fun y hy => .tail _ hy
    have P3 : LGood w x.lc ⟨pre' ++ ⟨n.k, kt, fresh, t4, false, t9⟩ :: post', o9, stored lst.hkvs n.k (.ref t9), lst.dues, lst.ln, lst.dn⟩ ((t9, tup2 (.int fresh t4) (.bool false)) :: (X8 ++ R)) := P8.put0 (e' := ⟨n.k, kt, fresh, t4, false, t9⟩) h3 rfl ho2 hin (.head _)
    have D3 := nodupP (lst' := ⟨pre' ++ ⟨n.k, kt, fresh, t4, false, t9⟩ :: post', o9, stored lst.hkvs n.k (.ref t9), lst.dues, lst.ln, lst.dn⟩) (o := tup2 (.int fresh t4) (.bool false)) (Over.off (lst := lst) l9) D8
    have N3 := kst_newsOf N2 (ledP1 (x := x) (cst := cst8) (lst := ⟨pre' ++ ⟨n.k, kt, fresh, t4, false, t9⟩ :: post', o9, stored lst.hkvs n.k (.ref t9), lst.dues, lst.ln, lst.dn⟩) (R := X8 ++ R) (t := (t9, tup2 (.int fresh t4) (.bool false))))
    have S4 : Stat x ((t9, tup2 (.int fresh t4) (.bool false)) :: (X8 ++ R)) := S8.sub hin
    have ml4 := S4.mline
    clear N2
    refine' hU _ _ _ _ _ _ _ _ _ _ _ _ _ _ _ _ _ ⟨pre' ++ ⟨n.k, kt, fresh, t4, false, t9⟩ :: post', o9, stored lst.hkvs n.k (.ref t9), lst.dues, lst.ln, lst.dn⟩ pre' post' ⟨n.k, kt, fresh, t4, false, t9⟩ n.k t3 _ ?p1 ?p2 ?p3 N3 ?p5 ?pk ?p6 ?p7 D3 rfl rfl h5 ?pb ?_
    case p1 => k_asm
    case p2 => k_asm
    case p3 => k_asm
    case p5 => k_asm
    case pk => rfl
    case p6 => ktr_room
    case p7 => exact fun y hy => memLed (S4.uS y hy)
    case pb => have hle := congrArg List.length h3; simp only [List.length_append, List.length_cons] at hle ⊢; lia
    intro h9 tk9 F9 N9
    obtain ⟨lst2, N4, P4, D4, e1, e2⟩ : ∃ lst2 : LSt, News g x.L h9 (LedL x cst8 lst2 ((t9, tup2 (.int fresh t4) (.bool false)) :: (X8 ++ R))) ∧ LGood w x.lc lst2 ((t9, tup2 (.int fresh t4) (.bool false)) :: (X8 ++ R)) ∧ (Ads (LLed x.lc lst2 (Led x.c cst8 ((t9, tup2 (.int fresh t4) (.bool false)) :: (X8 ++ R))))).Nodup ∧ absE lst2.ents = (n.k, fresh, false) :: absE (pre' ++ post') ∧ lst2.dues = lst.dues := ⟨_, N9, P3.touch (pre := pre') rfl t3 _, D3, rfl, rfl⟩
    have hlr : (lvals lst2.ents).length = cst.line.length := by
      have h6 := congrArg List.length e1
      have h7 := congrArg List.length h3
      simp only [absE, List.length_map, List.length_cons, List.length_append] at h6 h7
      simp only [lvals, List.length_map]
      lia
    clear N9 N3
    try dsimp only
    try k_fold
    k_steps
    exact DeedEnd.intro (by assumption) ⟨rfl, ⟨_, congrArg (fun v : Int => some (Value.int v zt)) (size_add hv8).symm⟩, ⟨_, congrArg (fun v : Int => some (Value.int v yt)) (stay_add hv8).symm⟩, rfl, rfl, rfl⟩ rfl (kst_newsOf (by assumption) ledLC) (I.addOld h1 h4 hv8 G8 e1 (by rw [e2]; simp [goneOf, hf, absO]) P4 hin (ndL D4)) (fun y hy => hin y (List.mem_append_right _ hy))
  | true =>
    rw [hf] at htup
    k_steps
    (rename News _ _ _ _ => N2); (rename Obj.IsDictOf _ _ (stored _ _ _) => ho2); (rename Inv _ _ _ _ _ _ => I); (rename absS _ = vadd _ _ _ _ => hv8); (rename Good _ _ _ (_ ++ _) => G8); (rename LGood _ _ _ (_ ++ _) => P8); (rename Stat _ (_ ++ _) => S8); (rename List.Nodup (Ads (LLed _ _ _)) => D8); (rename _ ∧ _ ∧ _ ∧ _ ∧ _ ∧ _ ∧ AllLt _ _ => l8); (rename _ ∧ _ ∧ _ ∧ _ ∧ _ ∧ _ ∧ _ ∧ AllLt _ _ => l9); (rename PySem.Obj => o9); (rename CSt => cst8); (rename List (Addr × Obj) => X8)
    simp only [List.push_toArray] at N2
    obtain ⟨t9, t8, N2, l9, l8, ho2⟩ : ∃ t9 t8 : Addr, News g x.L _ ((t9, tup2 (.int fresh t4) (.bool false)) :: (t8, tup2 (.int n.k t3) (.int n.v vt)) :: (x.lc.la, listOf (lvals lst.ents).toArray lst.ln) :: (x.lc.da, listOf (refsOf lst.dues ++ [Value.ref t8]).toArray (lst.dn + 1)) :: (x.lc.ha, o9) :: Led x.c cst8 (X8 ++ R)) ∧ (@LT.lt Nat _ t8 t9 ∧ Over t9 x cst8 (X8 ++ R)) ∧ Over t8 x cst8 (X8 ++ R) ∧ o9.IsDictOf (intKind PySem.Challenge.rw_iy0004_01.row.prog w) (stored lst.hkvs n.k (.ref t9)) := ⟨_, _, N2, l9, l8, ho2⟩
    have elv : lvals lst.ents = lvals (pre' ++ ⟨n.k, kt, fresh, t4, false, t9⟩ :: post') := by rw [h3]; simp [lvals]
    have ed : (refsOf lst.dues ++ [Value.ref t8]) = refsOf (lst.dues ++ [(⟨t8, n.k, t3, n.v, vt⟩ : Tup)]) := by simp [refsOf]
    rw [elv, ed] at N2
    have hin : ∀ y ∈ X8 ++ R, y ∈ (t9, tup2 (.int fresh t4) (.bool false)) :: (t8, tup2 (.int n.k t3) (.int n.v vt)) :: (X8 ++ R) := fun y hy => .tail _ (.tail _ hy)
    have P3 : LGood w x.lc ⟨pre' ++ ⟨n.k, kt, fresh, t4, false, t9⟩ :: post', o9, stored lst.hkvs n.k (.ref t9), lst.dues ++ [⟨t8, n.k, t3, n.v, vt⟩], lst.ln, lst.dn + 1⟩ ((t9, tup2 (.int fresh t4) (.bool false)) :: (t8, tup2 (.int n.k t3) (.int n.v vt)) :: (X8 ++ R)) := P8.put (e' := ⟨n.k, kt, fresh, t4, false, t9⟩) h3 rfl ho2 hin (.head _) (fun u hu => by rw [List.mem_singleton.mp hu]; exact .tail _ (.head _)) (by simp only [List.length_cons, List.length_nil]; lia)
    have D2 := nodupP (lst' := lst) (o := tup2 (.int n.k t3) (.int n.v vt)) (Over.off (lst := lst) l8) D8
    have D3 := nodupP (lst' := ⟨pre' ++ ⟨n.k, kt, fresh, t4, false, t9⟩ :: post', o9, stored lst.hkvs n.k (.ref t9), lst.dues ++ [⟨t8, n.k, t3, n.v, vt⟩], lst.ln, lst.dn + 1⟩) (o := tup2 (.int fresh t4) (.bool false)) (Over.off1 (lst := lst) (Over.off l9.2) l9.1) D2
    have N3 := kst_newsOf N2 (ledP2 (x := x) (cst := cst8) (lst := ⟨pre' ++ ⟨n.k, kt, fresh, t4, false, t9⟩ :: post', o9, stored lst.hkvs n.k (.ref t9), lst.dues ++ [⟨t8, n.k, t3, n.v, vt⟩], lst.ln, lst.dn + 1⟩) (R := X8 ++ R) (t := (t9, tup2 (.int fresh t4) (.bool false))) (t1 := (t8, tup2 (.int n.k t3) (.int n.v vt))))
    have S4 : Stat x ((t9, tup2 (.int fresh t4) (.bool false)) :: (t8, tup2 (.int n.k t3) (.int n.v vt)) :: (X8 ++ R)) := S8.sub hin
    have ml4 := S4.mline
    clear N2
    refine' hU _ _ _ _ _ _ _ _ _ _ _ _ _ _ _ _ _ ⟨pre' ++ ⟨n.k, kt, fresh, t4, false, t9⟩ :: post', o9, stored lst.hkvs n.k (.ref t9), lst.dues ++ [⟨t8, n.k, t3, n.v, vt⟩], lst.ln, lst.dn + 1⟩ pre' post' ⟨n.k, kt, fresh, t4, false, t9⟩ n.k t3 _ ?p1 ?p2 ?p3 N3 ?p5 ?pk ?p6 ?p7 D3 rfl rfl h5 ?pb ?_
    case p1 => k_asm
    case p2 => k_asm
    case p3 => k_asm
    case p5 => k_asm
    case pk => rfl
    case p6 => ktr_room
    case p7 => exact fun y hy => memLed (S4.uS y hy)
    case pb => have hle := congrArg List.length h3; simp only [List.length_append, List.length_cons] at hle ⊢; lia
    intro h9 tk9 F9 N9
    obtain ⟨lst2, N4, P4, D4, e1, e2⟩ : ∃ lst2 : LSt, News g x.L h9 (LedL x cst8 lst2 ((t9, tup2 (.int fresh t4) (.bool false)) :: (t8, tup2 (.int n.k t3) (.int n.v vt)) :: (X8 ++ R))) ∧ LGood w x.lc lst2 ((t9, tup2 (.int fresh t4) (.bool false)) :: (t8, tup2 (.int n.k t3) (.int n.v vt)) :: (X8 ++ R)) ∧ (Ads (LLed x.lc lst2 (Led x.c cst8 ((t9, tup2 (.int fresh t4) (.bool false)) :: (t8, tup2 (.int n.k t3) (.int n.v vt)) :: (X8 ++ R))))).Nodup ∧ absE lst2.ents = (n.k, fresh, false) :: absE (pre' ++ post') ∧ lst2.dues = lst.dues ++ [⟨t8, n.k, t3, n.v, vt⟩] := ⟨_, N9, P3.touch (pre := pre') rfl t3 _, D3, rfl, rfl⟩
    have hlr : (lvals lst2.ents).length = cst.line.length := by
      have h6 := congrArg List.length e1
      have h7 := congrArg List.length h3
      simp only [absE, List.length_map, List.length_cons, List.length_append] at h6 h7
      simp only [lvals, List.length_map]
      lia
    clear N9 N3
    try dsimp only
    try k_fold
    k_steps
    exact DeedEnd.intro (by assumption) ⟨rfl, ⟨_, congrArg (fun v : Int => some (Value.int v zt)) (size_add hv8).symm⟩, ⟨_, congrArg (fun v : Int => some (Value.int v yt)) (stay_add hv8).symm⟩, rfl, rfl, rfl⟩ rfl (kst_newsOf (by assumption) ledLC) (I.addOld h1 h4 hv8 G8 e1 (by rw [e2]; simp [goneOf, hf, absO]) P4 hin (ndL D4)) (fun y hy => hin y (List.mem_append_right _ hy))
end
end
section
-- LDeed2n
open PySem PySem.W PySem.Calls PyProof.Rows
theorem rules_LDeed2n0 : True := by
  k_with_none
  k_with "ne" => (refine neN ?_; (try dsimp only); first | assumption | (apply Ne.symm; assumption))
  k_with "tone" => (refine neN ?_; (try dsimp only); first | assumption | (apply Ne.symm; assumption))
  k_with "mem" => assumption
  k_with "subscriptTail" => (k_here; (with_reducible show wpAny _ _ (subscriptTail _ _ (Value.ref _) (Value.int _ _)) _ _ _); k_dflt (refine' kda_item (knd := PySem.intKind _ _) ?Nr ?mr ?dr (intKind_is _ _ _ _) ?vr ?_; (case Nr => k_asm); (case mr => k_mem); (case dr => assumption); (case vr => assumption)))
  k_with "getItem ref int" => (k_here; k_dflt (refine' gi_sym ?Nr ?mr ?dr ?vr ?_; (case Nr => k_asm); (case mr => k_mem); (case dr => assumption); (case vr => assumption); k_whole))
  k_with "call builtin:len" => (k_here; (with_reducible show wpAny _ _ (call (Value.builtin "len") [Value.ref _]) _ _ _); k_dflt (refine' kda_len (knd := PySem.intKind _ _) ?Nr ?mr ?dr ?lr ?zr ?_; (case Nr => k_asm); (case mr => k_mem); (case dr => assumption); (case lr => assumption); (case zr => first | assumption | lia); k_whole))
  k_with "compareOp In int ref" => (k_here; k_dflt (first
    | (refine' kda_in (knd := PySem.intKind _ _) ?Nr ?mr ?dr ?lr (intKind_is _ _ _ _) true ?br ?_; (case Nr => k_asm); (case mr => k_mem); (case dr => assumption); (case lr => assumption); (case br => exact Option.isSome_iff_exists.mpr ⟨_, by assumption⟩); k_whole)
    | (refine' kda_in (knd := PySem.intKind _ _) ?Nr ?mr ?dr ?lr (intKind_is _ _ _ _) false ?br ?_; (case Nr => k_asm); (case mr => k_mem); (case dr => assumption); (case lr => assumption); (case br => exact Option.isSome_eq_false_iff.mpr (Option.isNone_iff_eq_none.mpr (by assumption))); k_whole)))
  k_with "setItem ref int" => (k_here; k_dflt (refine' kda_set (knd := PySem.intKind _ _) ?Fr ?Nr ?Ur ?dr (intKind_is _ _ _ _) ?zr ?_; (case Fr => k_asm); (case Nr => k_asm); (case Ur => k_updF); (case dr => assumption); (case zr => assumption)); intro h'r o'r F'r N'r hd'r; (try dsimp only at N'r))
  k_with "getMethod ref" => (k_here; (with_reducible show wpAny _ _ (getMethod (Value.ref _) (Str.ofString "pop") _) _ _ _); k_dflt (refine' kob_method (knd := PySem.intKind _ _) PySem.F.slot_dict_pop PySem.F.type_dict_pop ?Nr ?mr ?dr ?_; (case Nr => k_asm); (case mr => k_mem); (case dr => assumption)))
  k_with "getMethod ref" => (k_here; (with_reducible show wpAny _ _ (getMethod (Value.ref _) (Str.ofString "get") _) _ _ _); k_dflt (refine' kdg_method (knd := PySem.intKind _ _) ?Nr ?mr ?dr ?_; (case Nr => k_asm); (case mr => k_mem); (case dr => assumption)))
  k_with "call builtin:dict.pop" => (k_here; (with_reducible show wpAny _ _ (call (Value.builtin "dict.pop") [Value.ref _, Value.int _ _]) _ _ _); k_dflt (refine' kob_pop (knd := PySem.intKind _ _) (more := []) ?Fr ?Nr ?Ur ?dr (intKind_is _ _ _ _) (.inl rfl) (by rfl) (PySem.F.args_dict_pop_2 _ _) ?lr ?zr ?_; (case Fr => k_asm); (case Nr => k_asm); (case Ur => k_updF); (case dr => assumption); (case lr => assumption); (case zr => assumption)); intro h'r o'r F'r N'r hd'r; (try dsimp only at N'r))
  k_with "call builtin:dict.get" => (k_here; (with_reducible show wpAny _ _ (call (Value.builtin "dict.get") [Value.ref _, Value.int _ _, _]) _ _ _); k_dflt (refine' kdg_get2 (knd := PySem.intKind _ _) ?Nr ?mr ?dr ?lr (intKind_is _ _ _ _) _ ?vr ?_; (case Nr => k_asm); (case mr => k_mem); (case dr => assumption); (case lr => assumption); (case vr => assumption)); (try dsimp only [Option.getD]))
  k_with "enter" => (refine' code_def ?k1r ?k2r ?k3r ?k4r ?k5r ?kAr ?kFr ?kKr ?k6r ?k7r ?k8r ?k9r ?kBr ?_ ?c2r ?c3r ?c4r ?c5r; (case kAr => exact rfl); (case kFr => exact rfl); (case kKr => first | exact rfl | assumption); (case k1r => k_asm); (case k2r => k_asm); (case k3r => k_asm); (case k4r => k_asm); (case k5r => k_asm); (case k6r => k_is); (case k7r => k_is); (case k8r => ktr_room); (case k9r => first | exact BindsTo.of_eq rfl | exact binds_K (by k_in) rfl (by k_is) rfl rfl rfl); (case c5r => decide); (case kBr => exact locs rfl); (case c2r => exact rfl); (case c3r => exact rfl); (case c4r => exact rfl); k_whole; intro g'r L'r h'r FG'r F'r N'r B'r X'r T'r; (try dsimp only); (try k_fold))
  k_with "callWith ref" => (k_here; k_dflt (refine' callWith_F ?k1r ?_; (case k1r => exact FnAt.of (by k_asm) (by k_mem)); k_whole))
  trivial
section
variable {w : World} {p : Program} {loose : List Str} {mean : ExcName → Option Value} {mg mb : Str → Option Value} {g : Heap} {x : LawFix} {fa : Addr} {s : Shared} {Q : Flow → Shared → Prop} {E : Value → Shared → Prop} {cst : CSt} {lst : LSt} {R : List (Addr × Obj)} {i : Nat} {m : Str → Option Value} {zt yt t1 t2 t3 t4 : Tok} {q key fresh : Int}
  (B : Below callerA g [] g) (X : (hd.heap_39 w.params).In g) (T : Top p loose mean mg mb g)
  (hG : GoneSpec w p loose mean mg mb x.c.ga x.c.ol x.c.S₀) (hU : UseSpec w p loose mean mg mb x.ua x.lc x.Su) (hD : DropSpec w p loose mean mg mb x.da x.lc x.Sd)
include B X T hG hU hD
theorem rules_LDeed2n1 : True := by
  k_with "mem" => exact List.mem_append_right _ (by assumption)
  k_with "call ref" => (k_here; (with_reducible show wpAny _ _ (call (Value.ref 128) _ _) _ _ _); (rename Inv _ _ _ _ _ _ => I9r); (rename News _ _ _ _ => N9r); k_dflt (refine' set_new ?gAr ?gBr ?gCr ?gDr rfl ?gEr (kst_newsOf N9r ledLC) (Inv.G I9r) ?gFr ?g7r ?g8r ?g9r ?gar ?_; (case gAr => k_asm); (case gBr => k_asm); (case gCr => k_asm); (case gDr => k_asm); (case gEr => ktr_room); (case gFr => assumption); (case g7r => exact I9r.hy.1); (case g8r => exact I9r.hl); (case g9r => assumption); (case gar => lia)); intro cst8r X8r hv8r G8r h9r tk9r F9r N8r; (have N7r := kst_newsOf (kst_newsOf N8r ledX) ledCL); clear N9r N8r; (have S8r := (Inv.S I9r).mono (X := X8r)); (have P8r := (Inv.P I9r).mono (X := X8r)); (have D8r := nodupL1 G8r (Inv.P I9r) I9r.S.gS); (obtain ⟨d81, d82, d83, d84⟩ := nd3L D8r); (obtain ⟨ua1, ua2, ua3, ua4, ufn8⟩ := S8r.ufn); (have mh8r := S8r.mheld); (have ml8r := S8r.mline); (have md8r := S8r.mdue); (try dsimp only); (try k_fold))
  k_with "call builtin:list.insert" => (k_here; (with_reducible show wpAny _ _ (call (Value.builtin _) [Value.ref _, Value.int _ _, _]) _ _ _); k_dflt (refine' kl_insert0 ?Fr ?Nr ?Ur ?zr ?_; (case Fr => k_asm); (case Nr => k_asm); (case Ur => k_upd); (case zr => assumption)); intro h'r F'r N'r; (try dsimp only at N'r))
  k_with "call ref" => (k_here; (rename DropSpec _ _ _ _ _ _ _ _ _ => hD9r); (rename Stat _ (_ :: _) => S9r); k_dflt (refine' hD9r _ _ _ _ _ _ _ _ _ _ _ _ _ _ _ _ _ _ _ _ _ _ ?p1r ?p2r ?p3r ?p4r ?p5r ?pkr ?p6r ?p7r ?p8r ?p9r ?par ?pbr ?_; (case p1r => k_asm); (case p2r => k_asm); (case p3r => k_asm); (case p4r => assumption); (case p5r => k_asm); (case pkr => rfl); (case p6r => ktr_room); (case p7r => exact fun y hy => memLed (S9r.dS y hy)); (case par => assumption); (case p8r => exact fun y hy => memLed hy); (case p9r => assumption); (case pbr => first | assumption | lia | decide)); intro lst9r X9r he9r ho9r P9r nd9r h9r tk9r F9r N9r; (try dsimp only); (try k_fold))
  k_with "call builtin:len" => (k_here; (with_reducible show wpAny _ _ (call (Value.builtin "len") [Value.ref _]) _ _ _); k_dflt (refine' kst_len ?k1r ?k2r ?k3r ?k4r ?_; (case k1r => k_asm); (case k2r => k_mem); (case k3r => assumption); (case k4r => lia)); k_whole)
  trivial
set_option maxRecDepth 100000 in
set_option maxHeartbeats 4000000 in
theorem deed2_out (hi : i ≤ 64) (F : Fr g x.L s.heap (deedMap x cst.size cst.stay zt yt 2 q key fresh t1 t2 t3 t4 m)) (N : News g x.L s.heap (LedC x cst lst R)) (I : Inv w x cst lst R i) (hkey : key ∉ cst.line.map Node.k) (h07 : 0 ≤ key ∧ key < 7) :
  wpAny (model PySem.Challenge.rw_iy0004_01.row.prog w) (callerA.deeper (envOfC (Str.ofString "law") lawScope x.L fa (.ref 183))) (exec deedIf (envOfC (Str.ofString "law") lawScope x.L fa (.ref 183))) (DeedEnd w x g s R (i + 1) key) E s := by
  revert X; k_fill; intro X
  have es : lawScope = Scope.mk _ _ _ _ _ := rfl
  have eb : deedIf = Stmt.If _ _ _ _ := rfl
  rw [es, eb]
  clear es eb
  have hsz := I.sizes hi
  have hy0 := I.hy
  have hv := lvalueAt_none I.P.hkv (I.neither hkey)
  have hoh := I.P.hoh
  have hha := I.P.hha
  have hdl := I.P.len
  have hll : (lvals lst.ents).length = lst.ents.length := by simp [lvals]
  have hz1 : (lvals lst.ents).length ≤ sizeLine := by rw [hll, sizeLine_eq]; lia
  have hz2 : lst.hkvs.length ≤ sizeLine := by rw [hdl, sizeLine_eq]; lia
  have vheld := I.S.vheld
  have vline := I.S.vline
  have hca := I.ca
  have N1 := kst_newsOf N ledCL
  clear N
  k_steps
  (rename News _ _ _ _ => N2); (rename Obj.IsDictOf _ _ (stored _ _ _) => ho2); (rename Inv _ _ _ _ _ _ => I); (rename absS _ = vadd _ _ _ _ => hv8); (rename Good _ _ _ (_ ++ _) => G8); (rename LGood _ _ _ (_ ++ _) => P8); (rename Stat _ (_ ++ _) => S8); (rename List.Nodup (Ads (LLed _ _ _)) => D8); (rename _ ∧ _ ∧ _ ∧ _ ∧ _ ∧ _ ∧ AllLt _ _ => l9); (rename PySem.Obj => o9); (rename CSt => cst8); (rename List (Addr × Obj) => X8)
  obtain ⟨t9, N2, l9, ho2⟩ := ex_news (o := tup2 (.int fresh t4) (.bool false)) (rest := fun t => (x.lc.la, listOf (Value.int key t3 :: lvals lst.ents).toArray (lst.ln + 1)) :: (x.lc.da, listOf (refsOf lst.dues).toArray lst.dn) :: (x.lc.ha, o9) :: Led x.c cst8 (X8 ++ R)) (P := fun t => Over t x cst8 (X8 ++ R) ∧ o9.IsDictOf (intKind PySem.Challenge.rw_iy0004_01.row.prog w) (stored lst.hkvs key (.ref t))) N2 ⟨l9, ho2⟩
  have P3 : LGood w x.lc ⟨⟨key, t3, fresh, t4, false, t9⟩ :: lst.ents, o9, stored lst.hkvs key (.ref t9), lst.dues, lst.ln + 1, lst.dn⟩ ((t9, tup2 (.int fresh t4) (.bool false)) :: (X8 ++ R)) := (P8.more (fun y hy => .tail _ hy)).ins (e := ⟨key, t3, fresh, t4, false, t9⟩) (I.neither hkey) ho2 (.head _) (by lia)
  have D3 := nodupP (lst' := ⟨⟨key, t3, fresh, t4, false, t9⟩ :: lst.ents, o9, stored lst.hkvs key (.ref t9), lst.dues, lst.ln + 1, lst.dn⟩) (o := tup2 (.int fresh t4) (.bool false)) (Over.off (lst := lst) l9) D8
  have N3 := kst_newsOf N2 (ledP1 (x := x) (cst := cst8) (lst := ⟨⟨key, t3, fresh, t4, false, t9⟩ :: lst.ents, o9, stored lst.hkvs key (.ref t9), lst.dues, lst.ln + 1, lst.dn⟩) (R := X8 ++ R) (t := (t9, tup2 (.int fresh t4) (.bool false))))
  have S4 : Stat x ((t9, tup2 (.int fresh t4) (.bool false)) :: (X8 ++ R)) := S8.sub fun y hy => .tail _ hy
  obtain ⟨da1, da2, da3, da4, dfn⟩ := S4.dfn
  have ml4 := S4.mline
  have hy1 := I.hy.1
  clear N2
  refine' hU _ _ _ _ _ _ _ _ _ _ _ _ _ _ _ _ _ ⟨⟨key, t3, fresh, t4, false, t9⟩ :: lst.ents, o9, stored lst.hkvs key (.ref t9), lst.dues, lst.ln + 1, lst.dn⟩ [] lst.ents ⟨key, t3, fresh, t4, false, t9⟩ key t3 _ ?p1 ?p2 ?p3 N3 ?p5 ?pk ?p6 ?p7 D3 rfl rfl ?pa ?pb ?_
  case p1 => k_asm
  case p2 => k_asm
  case p3 => k_asm
  case p5 => k_asm
  case pk => rfl
  case p6 => ktr_room
  case p7 => exact fun y hy => memLed (S4.uS y hy)
  case pa => exact fun y hy => absurd hy List.not_mem_nil
  case pb => simp only [List.length_cons]; lia
  intro h9 tk9 F9 N9
  obtain ⟨lst2, N4, P4, D4, e1, e2⟩ : ∃ lst2 : LSt, News g x.L h9 (LedL x cst8 lst2 ((t9, tup2 (.int fresh t4) (.bool false)) :: (X8 ++ R))) ∧ LGood w x.lc lst2 ((t9, tup2 (.int fresh t4) (.bool false)) :: (X8 ++ R)) ∧ (Ads (LLed x.lc lst2 (Led x.c cst8 ((t9, tup2 (.int fresh t4) (.bool false)) :: (X8 ++ R))))).Nodup ∧ absE lst2.ents = (key, fresh, false) :: absE lst.ents ∧ lst2.dues = lst.dues := ⟨_, N9, P3.touch (pre := []) rfl t3 _, D3, rfl, rfl⟩
  have hlr : (lvals lst2.ents).length = cst.line.length + 1 := by
    have := congrArg List.length e1
    simp only [absE, List.length_map, List.length_cons] at this
    simp only [lvals, List.length_map]
    lia
  clear N9 N3
  try dsimp only
  try k_fold
  k_steps
  · (rename LGood _ _ _ (_ ++ _) => P9); (rename absE _ = List.take _ _ => he9); (rename absO _ = _ ++ goneAll _ => ho9); (rename List.Nodup (Ads (LLed _ _ (_ ++ _))) => nd9)
    exact DeedEnd.intro (by assumption) ⟨rfl, ⟨_, congrArg (fun v : Int => some (Value.int v zt)) (size_add hv8).symm⟩, ⟨_, congrArg (fun v : Int => some (Value.int v yt)) (stay_add hv8).symm⟩, rfl, rfl, rfl⟩ rfl (kst_newsOf (by assumption) ledY) (I.addNew hkey h07 hv8 G8 (.inr ⟨by lia, by rw [he9, e1], by rw [ho9, e2, e1]⟩) P9 (fun y hy => List.mem_append_right _ (.tail _ hy)) (nodupLC nd9)) (fun y hy => List.mem_append_right _ (.tail _ (List.mem_append_right _ hy)))
  · exact DeedEnd.intro (by assumption) ⟨rfl, ⟨_, congrArg (fun v : Int => some (Value.int v zt)) (size_add hv8).symm⟩, ⟨_, congrArg (fun v : Int => some (Value.int v yt)) (stay_add hv8).symm⟩, rfl, rfl, rfl⟩ rfl (kst_newsOf (by assumption) ledLC) (I.addNew hkey h07 hv8 G8 (.inl ⟨by lia, e1, by rw [e2]⟩) P4 (fun y hy => .tail _ hy) (ndL D4)) (fun y hy => .tail _ (List.mem_append_right _ hy))
end
end
section
-- LDeed2o
open PySem PySem.W PySem.Calls PyProof.Rows
theorem rules_LDeed2o0 : True := by
  k_with_none
  k_with "ne" => (refine neN ?_; (try dsimp only); first | assumption | (apply Ne.symm; assumption))
  k_with "tone" => (refine neN ?_; (try dsimp only); first | assumption | (apply Ne.symm; assumption))
  k_with "mem" => assumption
  k_with "subscriptTail" => (k_here; (with_reducible show wpAny _ _ (subscriptTail _ _ (Value.ref _) (Value.int _ _)) _ _ _); k_dflt (refine' kda_item (knd := PySem.intKind _ _) ?Nr ?mr ?dr (intKind_is _ _ _ _) ?vr ?_; (case Nr => k_asm); (case mr => k_mem); (case dr => assumption); (case vr => assumption)))
  k_with "getItem ref int" => (k_here; k_dflt (refine' gi_sym ?Nr ?mr ?dr ?vr ?_; (case Nr => k_asm); (case mr => k_mem); (case dr => assumption); (case vr => assumption); k_whole))
  k_with "call builtin:len" => (k_here; (with_reducible show wpAny _ _ (call (Value.builtin "len") [Value.ref _]) _ _ _); k_dflt (refine' kda_len (knd := PySem.intKind _ _) ?Nr ?mr ?dr ?lr ?zr ?_; (case Nr => k_asm); (case mr => k_mem); (case dr => assumption); (case lr => assumption); (case zr => first | assumption | lia); k_whole))
  k_with "compareOp In int ref" => (k_here; k_dflt (first
    | (refine' kda_in (knd := PySem.intKind _ _) ?Nr ?mr ?dr ?lr (intKind_is _ _ _ _) true ?br ?_; (case Nr => k_asm); (case mr => k_mem); (case dr => assumption); (case lr => assumption); (case br => exact Option.isSome_iff_exists.mpr ⟨_, by assumption⟩); k_whole)
    | (refine' kda_in (knd := PySem.intKind _ _) ?Nr ?mr ?dr ?lr (intKind_is _ _ _ _) false ?br ?_; (case Nr => k_asm); (case mr => k_mem); (case dr => assumption); (case lr => assumption); (case br => exact Option.isSome_eq_false_iff.mpr (Option.isNone_iff_eq_none.mpr (by assumption))); k_whole)))
  k_with "setItem ref int" => (k_here; k_dflt (refine' kda_set (knd := PySem.intKind _ _) ?Fr ?Nr ?Ur ?dr (intKind_is _ _ _ _) ?zr ?_; (case Fr => k_asm); (case Nr => k_asm); (case Ur => k_updF); (case dr => assumption); (case zr => assumption)); intro h'r o'r F'r N'r hd'r; (try dsimp only at N'r))
  k_with "getMethod ref" => (k_here; (with_reducible show wpAny _ _ (getMethod (Value.ref _) (Str.ofString "pop") _) _ _ _); k_dflt (refine' kob_method (knd := PySem.intKind _ _) PySem.F.slot_dict_pop PySem.F.type_dict_pop ?Nr ?mr ?dr ?_; (case Nr => k_asm); (case mr => k_mem); (case dr => assumption)))
  k_with "getMethod ref" => (k_here; (with_reducible show wpAny _ _ (getMethod (Value.ref _) (Str.ofString "get") _) _ _ _); k_dflt (refine' kdg_method (knd := PySem.intKind _ _) ?Nr ?mr ?dr ?_; (case Nr => k_asm); (case mr => k_mem); (case dr => assumption)))
  k_with "call builtin:dict.pop" => (k_here; (with_reducible show wpAny _ _ (call (Value.builtin "dict.pop") [Value.ref _, Value.int _ _]) _ _ _); k_dflt (refine' kob_pop (knd := PySem.intKind _ _) (more := []) ?Fr ?Nr ?Ur ?dr (intKind_is _ _ _ _) (.inl rfl) (by rfl) (PySem.F.args_dict_pop_2 _ _) ?lr ?zr ?_; (case Fr => k_asm); (case Nr => k_asm); (case Ur => k_updF); (case dr => assumption); (case lr => assumption); (case zr => assumption)); intro h'r o'r F'r N'r hd'r; (try dsimp only at N'r))
  k_with "call builtin:dict.get" => (k_here; (with_reducible show wpAny _ _ (call (Value.builtin "dict.get") [Value.ref _, Value.int _ _, _]) _ _ _); k_dflt (refine' kdg_get2 (knd := PySem.intKind _ _) ?Nr ?mr ?dr ?lr (intKind_is _ _ _ _) _ ?vr ?_; (case Nr => k_asm); (case mr => k_mem); (case dr => assumption); (case lr => assumption); (case vr => assumption)); (try dsimp only [Option.getD]))
  k_with "enter" => (refine' code_def ?k1r ?k2r ?k3r ?k4r ?k5r ?kAr ?kFr ?kKr ?k6r ?k7r ?k8r ?k9r ?kBr ?_ ?c2r ?c3r ?c4r ?c5r; (case kAr => exact rfl); (case kFr => exact rfl); (case kKr => first | exact rfl | assumption); (case k1r => k_asm); (case k2r => k_asm); (case k3r => k_asm); (case k4r => k_asm); (case k5r => k_asm); (case k6r => k_is); (case k7r => k_is); (case k8r => ktr_room); (case k9r => first | exact BindsTo.of_eq rfl | exact binds_K (by k_in) rfl (by k_is) rfl rfl rfl); (case c5r => decide); (case kBr => exact locs rfl); (case c2r => exact rfl); (case c3r => exact rfl); (case c4r => exact rfl); k_whole; intro g'r L'r h'r FG'r F'r N'r B'r X'r T'r; (try dsimp only); (try k_fold))
  k_with "callWith ref" => (k_here; k_dflt (refine' callWith_F ?k1r ?_; (case k1r => exact FnAt.of (by k_asm) (by k_mem)); k_whole))
  trivial
section
variable {w : World} {p : Program} {loose : List Str} {mean : ExcName → Option Value} {mg mb : Str → Option Value} {g : Heap} {x : LawFix} {fa : Addr} {s : Shared} {Q : Flow → Shared → Prop} {E : Value → Shared → Prop} {cst : CSt} {lst : LSt} {R : List (Addr × Obj)} {i : Nat} {m : Str → Option Value} {zt yt t1 t2 t3 t4 : Tok} {q key fresh : Int}
  (B : Below callerA g [] g) (X : (hd.heap_39 w.params).In g) (T : Top p loose mean mg mb g)
  (hG : GoneSpec w p loose mean mg mb x.c.ga x.c.ol x.c.S₀) (hU : UseSpec w p loose mean mg mb x.ua x.lc x.Su) (hD : DropSpec w p loose mean mg mb x.da x.lc x.Sd)
include B X T hG hU hD
theorem rules_LDeed2o1 : True := by
  k_with "mem" => exact List.mem_append_right _ (by assumption)
  k_with "mem" => (first | assumption | exact List.mem_append_right _ (by assumption) | exact List.mem_append_right _ (List.mem_append_right _ (by assumption)))
  k_with "call ref" => (k_here; (with_reducible show wpAny _ _ (call (Value.ref 128) _ _) _ _ _); (rename Inv _ _ _ _ _ _ => I9r); (rename News _ _ _ _ => N9r); k_dflt (refine' set_old ?gAr ?gBr ?gCr ?gDr rfl ?gEr (kst_newsOf N9r ledLC) (Inv.G I9r) ?gFr ?g8r ?g9r ?gar ?_; (case gAr => k_asm); (case gBr => k_asm); (case gCr => k_asm); (case gDr => k_asm); (case gEr => ktr_room); (case gFr => assumption); (case g8r => assumption); (case g9r => exact I9r.hl); (case gar => lia)); intro cst8r X8r hv8r G8r h9r tk9r F9r N8r; (have N7r := kst_newsOf (kst_newsOf N8r ledX) ledCL); clear N9r N8r; (have S8r := (Inv.S I9r).mono (X := X8r)); (have P8r := (Inv.P I9r).mono (X := X8r)); (have D8r := nodupL1 G8r (Inv.P I9r) I9r.S.gS); (obtain ⟨d81, d82, d83, d84⟩ := nd3L D8r); (obtain ⟨ua1, ua2, ua3, ua4, ufn8⟩ := S8r.ufn); (have mh8r := S8r.mheld); (have ml8r := S8r.mline); (have md8r := S8r.mdue); (rename (_, tup2 _ _) ∈ _ => m9r); (have tup8r := List.mem_append_right X8r m9r); (try dsimp only); (try k_fold))
  k_with "call builtin:list.insert" => (k_here; (with_reducible show wpAny _ _ (call (Value.builtin _) [Value.ref _, Value.int _ _, _]) _ _ _); k_dflt (refine' kl_insert0 ?Fr ?Nr ?Ur ?zr ?_; (case Fr => k_asm); (case Nr => k_asm); (case Ur => k_upd); (case zr => assumption)); intro h'r F'r N'r; (try dsimp only at N'r))
  k_with "call ref" => (k_here; (rename DropSpec _ _ _ _ _ _ _ _ _ => hD9r); (rename Stat _ (_ :: _) => S9r); k_dflt (refine' hD9r _ _ _ _ _ _ _ _ _ _ _ _ _ _ _ _ _ _ _ _ _ _ ?p1r ?p2r ?p3r ?p4r ?p5r ?pkr ?p6r ?p7r ?p8r ?p9r ?par ?pbr ?_; (case p1r => k_asm); (case p2r => k_asm); (case p3r => k_asm); (case p4r => assumption); (case p5r => k_asm); (case pkr => rfl); (case p6r => ktr_room); (case p7r => exact fun y hy => memLed (S9r.dS y hy)); (case par => assumption); (case p8r => exact fun y hy => memLed hy); (case p9r => assumption); (case pbr => first | assumption | lia | decide)); intro lst9r X9r he9r ho9r P9r nd9r h9r tk9r F9r N9r; (try dsimp only); (try k_fold))
  k_with "call builtin:len" => (k_here; (with_reducible show wpAny _ _ (call (Value.builtin "len") [Value.ref _]) _ _ _); k_dflt (refine' kst_len ?k1r ?k2r ?k3r ?k4r ?_; (case k1r => k_asm); (case k2r => k_mem); (case k3r => assumption); (case k4r => lia)); k_whole)
  trivial
set_option maxRecDepth 100000 in
set_option maxHeartbeats 4000000 in
theorem deed2_in (hi : i ≤ 64) (F : Fr g x.L s.heap (deedMap x cst.size cst.stay zt yt 2 q key fresh t1 t2 t3 t4 m)) (N : News g x.L s.heap (LedC x cst lst R)) (I : Inv w x cst lst R i) (hkey : key ∈ cst.line.map Node.k) (h07 : 0 ≤ key ∧ key < 7) :
  wpAny (model PySem.Challenge.rw_iy0004_01.row.prog w) (callerA.deeper (envOfC (Str.ofString "law") lawScope x.L fa (.ref 183))) (exec deedIf (envOfC (Str.ofString "law") lawScope x.L fa (.ref 183))) (DeedEnd w x g s R (i + 1) key) E s := by
  revert X; k_fill; intro X
  have es : lawScope = Scope.mk _ _ _ _ _ := rfl
  have eb : deedIf = Stmt.If _ _ _ _ := rfl
  rw [es, eb]
  clear es eb
  obtain ⟨pre, n, post, pre', kt, vt, t, post', rfl, h1, h3, h4, h5⟩ := I.both hkey
  have hsz := I.sizes hi
  have hy0 := I.hy
  have hl0 := I.hl
  have hv : valueAt lst.hkvs n.k = some (Value.ref t) := I.P.val (e := ⟨n.k, kt, n.v, vt, n.f, t⟩) (by rw [h3]; simp)
  have htup : (t, tup2 (.int n.v vt) (.bool n.f)) ∈ R := I.P.htup ⟨n.k, kt, n.v, vt, n.f, t⟩ (by rw [h3]; simp)
  have hoh := I.P.hoh
  have hha := I.P.hha
  have hdl := I.P.len
  have hll : (lvals lst.ents).length = lst.ents.length := by simp [lvals]
  have hz1 : (lvals lst.ents).length ≤ sizeLine := by rw [hll, sizeLine_eq]; lia
  have hz2 : lst.hkvs.length ≤ sizeLine := by rw [hdl, sizeLine_eq]; lia
  have hz3 : (refsOf lst.dues).length ≤ 4096 := by simp only [refsOf, List.length_map]; lia
  have vheld := I.S.vheld
  have vline := I.S.vline
  have vdue := I.S.vdue
  have hca := I.ca
  have N1 := kst_newsOf N ledCL
  clear N
  cases hf : n.f with
  | false =>
    rw [hf] at htup
    k_steps
    (rename News _ _ _ _ => N2); (rename Obj.IsDictOf _ _ (stored _ _ _) => ho2); (rename Inv _ _ _ _ _ _ => I); (rename absS _ = vadd _ _ _ _ => hv8); (rename Good _ _ _ (_ ++ _) => G8); (rename LGood _ _ _ (_ ++ _) => P8); (rename Stat _ (_ ++ _) => S8); (rename List.Nodup (Ads (LLed _ _ _)) => D8); (rename _ ∧ _ ∧ _ ∧ _ ∧ _ ∧ _ ∧ AllLt _ _ => l9); (rename PySem.Obj => o9); (rename CSt => cst8); (rename List (Addr × Obj) => X8)
    obtain ⟨t9, N2, l9, ho2⟩ : ∃ t9 : Addr, News g x.L _ ((t9, tup2 (.int fresh t4) (.bool false)) :: (x.lc.la, listOf (lvals lst.ents).toArray lst.ln) :: (x.lc.da, listOf (refsOf lst.dues).toArray lst.dn) :: (x.lc.ha, o9) :: Led x.c cst8 (X8 ++ R)) ∧ Over t9 x cst8 (X8 ++ R) ∧ o9.IsDictOf (intKind PySem.Challenge.rw_iy0004_01.row.prog w) (stored lst.hkvs n.k (.ref t9)) := ⟨_, N2, l9, ho2⟩
    have elv : lvals lst.ents = lvals (pre' ++ ⟨n.k, kt, fresh, t4, false, t9⟩ :: post') := by rw [h3]; simp [lvals]
    rw [elv] at N2
    have hin : ∀ y ∈ X8 ++ R, y ∈ (t9, tup2 (.int fresh t4) (.bool false)) :: (X8 ++ R) := fun y hy => .tail _ hy
    have P3 : LGood w x.lc ⟨pre' ++ ⟨n.k, kt, fresh, t4, false, t9⟩ :: post', o9, stored lst.hkvs n.k (.ref t9), lst.dues, lst.ln, lst.dn⟩ ((t9, tup2 (.int fresh t4) (.bool false)) :: (X8 ++ R)) := P8.put0 (e' := ⟨n.k, kt, fresh, t4, false, t9⟩) h3 rfl ho2 hin (.head _)
    have D3 := nodupP (lst' := ⟨pre' ++ ⟨n.k, kt, fresh, t4, false, t9⟩ :: post', o9, stored lst.hkvs n.k (.ref t9), lst.dues, lst.ln, lst.dn⟩) (o := tup2 (.int fresh t4) (.bool false)) (Over.off (lst := lst) l9) D8
    have N3 := kst_newsOf N2 (ledP1 (x := x) (cst := cst8) (lst := ⟨pre' ++ ⟨n.k, kt, fresh, t4, false, t9⟩ :: post', o9, stored lst.hkvs n.k (.ref t9), lst.dues, lst.ln, lst.dn⟩) (R := X8 ++ R) (t := (t9, tup2 (.int fresh t4) (.bool false))))
    have S4 : Stat x ((t9, tup2 (.int fresh t4) (.bool false)) :: (X8 ++ R)) := S8.sub hin
    have ml4 := S4.mline
    clear N2
    refine' hU _ _ _ _ _ _ _ _ _ _ _ _ _ _ _ _ _ ⟨pre' ++ ⟨n.k, kt, fresh, t4, false, t9⟩ :: post', o9, stored lst.hkvs n.k (.ref t9), lst.dues, lst.ln, lst.dn⟩ pre' post' ⟨n.k, kt, fresh, t4, false, t9⟩ n.k t3 _ ?p1 ?p2 ?p3 N3 ?p5 ?pk ?p6 ?p7 D3 rfl rfl h5 ?pb ?_
    case p1 => k_asm
    case p2 => k_asm
    case p3 => k_asm
    case p5 => k_asm
    case pk => rfl
    case p6 => ktr_room
    case p7 => exact fun y hy => memLed (S4.uS y hy)
    case pb => have hle := congrArg List.length h3; simp only [List.length_append, List.length_cons] at hle ⊢; lia
    intro h9 tk9 F9 N9
    obtain ⟨lst2, N4, P4, D4, e1, e2⟩ : ∃ lst2 : LSt, News g x.L h9 (LedL x cst8 lst2 ((t9, tup2 (.int fresh t4) (.bool false)) :: (X8 ++ R))) ∧ LGood w x.lc lst2 ((t9, tup2 (.int fresh t4) (.bool false)) :: (X8 ++ R)) ∧ (Ads (LLed x.lc lst2 (Led x.c cst8 ((t9, tup2 (.int fresh t4) (.bool false)) :: (X8 ++ R))))).Nodup ∧ absE lst2.ents = (n.k, fresh, false) :: absE (pre' ++ post') ∧ lst2.dues = lst.dues := ⟨_, N9, P3.touch (pre := pre') rfl t3 _, D3, rfl, rfl⟩
    have hlr : (lvals lst2.ents).length = cst.line.length := by
      have h6 := congrArg List.length e1
      have h7 := congrArg List.length h3
      simp only [absE, List.length_map, List.length_cons, List.length_append] at h6 h7
      simp only [lvals, List.length_map]
      lia
    clear N9 N3
    try dsimp only
    try k_fold
    k_steps
    exact DeedEnd.intro (by assumption) ⟨rfl, ⟨_, congrArg (fun v : Int => some (Value.int v zt)) (size_add hv8).symm⟩, ⟨_, congrArg (fun v : Int => some (Value.int v yt)) (stay_add hv8).symm⟩, rfl, rfl, rfl⟩ rfl (kst_newsOf (by assumption) ledLC) (I.addOld h1 h4 hv8 G8 e1 (by rw [e2]; simp [goneOf, hf, absO]) P4 hin (ndL D4)) (fun y hy => hin y (List.mem_append_right _ hy))
  | true =>
    rw [hf] at htup
    k_steps
    (rename News _ _ _ _ => N2); (rename Obj.IsDictOf _ _ (stored _ _ _) => ho2); (rename Inv _ _ _ _ _ _ => I); (rename absS _ = vadd _ _ _ _ => hv8); (rename Good _ _ _ (_ ++ _) => G8); (rename LGood _ _ _ (_ ++ _) => P8); (rename Stat _ (_ ++ _) => S8); (rename List.Nodup (Ads (LLed _ _ _)) => D8); (rename _ ∧ _ ∧ _ ∧ _ ∧ _ ∧ _ ∧ AllLt _ _ => l8); (rename _ ∧ _ ∧ _ ∧ _ ∧ _ ∧ _ ∧ _ ∧ AllLt _ _ => l9); (rename PySem.Obj => o9); (rename CSt => cst8); (rename List (Addr × Obj) => X8)
    simp only [List.push_toArray] at N2
    obtain ⟨t9, t8, N2, l9, l8, ho2⟩ : ∃ t9 t8 : Addr, News g x.L _ ((t9, tup2 (.int fresh t4) (.bool false)) :: (t8, tup2 (.int n.k t3) (.int n.v vt)) :: (x.lc.la, listOf (lvals lst.ents).toArray lst.ln) :: (x.lc.da, listOf (refsOf lst.dues ++ [Value.ref t8]).toArray (lst.dn + 1)) :: (x.lc.ha, o9) :: Led x.c cst8 (X8 ++ R)) ∧ (@LT.lt Nat _ t8 t9 ∧ Over t9 x cst8 (X8 ++ R)) ∧ Over t8 x cst8 (X8 ++ R) ∧ o9.IsDictOf (intKind PySem.Challenge.rw_iy0004_01.row.prog w) (stored lst.hkvs n.k (.ref t9)) := ⟨_, _, N2, l9, l8, ho2⟩
    have elv : lvals lst.ents = lvals (pre' ++ ⟨n.k, kt, fresh, t4, false, t9⟩ :: post') := by rw [h3]; simp [lvals]
    have ed : (refsOf lst.dues ++ [Value.ref t8]) = refsOf (lst.dues ++ [(⟨t8, n.k, t3, n.v, vt⟩ : Tup)]) := by simp [refsOf]
    rw [elv, ed] at N2
    have hin : ∀ y ∈ X8 ++ R, y ∈ (t9, tup2 (.int fresh t4) (.bool false)) :: (t8, tup2 (.int n.k t3) (.int n.v vt)) :: (X8 ++ R) := fun y hy => .tail _ (.tail _ hy)
    have P3 : LGood w x.lc ⟨pre' ++ ⟨n.k, kt, fresh, t4, false, t9⟩ :: post', o9, stored lst.hkvs n.k (.ref t9), lst.dues ++ [⟨t8, n.k, t3, n.v, vt⟩], lst.ln, lst.dn + 1⟩ ((t9, tup2 (.int fresh t4) (.bool false)) :: (t8, tup2 (.int n.k t3) (.int n.v vt)) :: (X8 ++ R)) := P8.put (e' := ⟨n.k, kt, fresh, t4, false, t9⟩) h3 rfl ho2 hin (.head _) (fun u hu => by rw [List.mem_singleton.mp hu]; exact .tail _ (.head _)) (by simp only [List.length_cons, List.length_nil]; lia)
    have D2 := nodupP (lst' := lst) (o := tup2 (.int n.k t3) (.int n.v vt)) (Over.off (lst := lst) l8) D8
    have D3 := nodupP (lst' := ⟨pre' ++ ⟨n.k, kt, fresh, t4, false, t9⟩ :: post', o9, stored lst.hkvs n.k (.ref t9), lst.dues ++ [⟨t8, n.k, t3, n.v, vt⟩], lst.ln, lst.dn + 1⟩) (o := tup2 (.int fresh t4) (.bool false)) (Over.off1 (lst := lst) (Over.off l9.2) l9.1) D2
    have N3 := kst_newsOf N2 (ledP2 (x := x) (cst := cst8) (lst := ⟨pre' ++ ⟨n.k, kt, fresh, t4, false, t9⟩ :: post', o9, stored lst.hkvs n.k (.ref t9), lst.dues ++ [⟨t8, n.k, t3, n.v, vt⟩], lst.ln, lst.dn + 1⟩) (R := X8 ++ R) (t := (t9, tup2 (.int fresh t4) (.bool false))) (t1 := (t8, tup2 (.int n.k t3) (.int n.v vt))))
    have S4 : Stat x ((t9, tup2 (.int fresh t4) (.bool false)) :: (t8, tup2 (.int n.k t3) (.int n.v vt)) :: (X8 ++ R)) := S8.sub hin
    have ml4 := S4.mline
    clear N2
    refine' hU _ _ _ _ _ _ _ _ _ _ _ _ _ _ _ _ _ ⟨pre' ++ ⟨n.k, kt, fresh, t4, false, t9⟩ :: post', o9, stored lst.hkvs n.k (.ref t9), lst.dues ++ [⟨t8, n.k, t3, n.v, vt⟩], lst.ln, lst.dn + 1⟩ pre' post' ⟨n.k, kt, fresh, t4, false, t9⟩ n.k t3 _ ?p1 ?p2 ?p3 N3 ?p5 ?pk ?p6 ?p7 D3 rfl rfl h5 ?pb ?_
    case p1 => k_asm
    case p2 => k_asm
    case p3 => k_asm
    case p5 => k_asm
    case pk => rfl
    case p6 => ktr_room
    case p7 => exact fun y hy => memLed (S4.uS y hy)
    case pb => have hle := congrArg List.length h3; simp only [List.length_append, List.length_cons] at hle ⊢; lia
    intro h9 tk9 F9 N9
    obtain ⟨lst2, N4, P4, D4, e1, e2⟩ : ∃ lst2 : LSt, News g x.L h9 (LedL x cst8 lst2 ((t9, tup2 (.int fresh t4) (.bool false)) :: (t8, tup2 (.int n.k t3) (.int n.v vt)) :: (X8 ++ R))) ∧ LGood w x.lc lst2 ((t9, tup2 (.int fresh t4) (.bool false)) :: (t8, tup2 (.int n.k t3) (.int n.v vt)) :: (X8 ++ R)) ∧ (Ads (LLed x.lc lst2 (Led x.c cst8 ((t9, tup2 (.int fresh t4) (.bool false)) :: (t8, tup2 (.int n.k t3) (.int n.v vt)) :: (X8 ++ R))))).Nodup ∧ absE lst2.ents = (n.k, fresh, false) :: absE (pre' ++ post') ∧ lst2.dues = lst.dues ++ [⟨t8, n.k, t3, n.v, vt⟩] := ⟨_, N9, P3.touch (pre := pre') rfl t3 _, D3, rfl, rfl⟩
    have hlr : (lvals lst2.ents).length = cst.line.length := by
      have h6 := congrArg List.length e1
      have h7 := congrArg List.length h3
      simp only [absE, List.length_map, List.length_cons, List.length_append] at h6 h7
      simp only [lvals, List.length_map]
      lia
    clear N9 N3
    try dsimp only
    try k_fold
    k_steps
    exact DeedEnd.intro (by assumption) ⟨rfl, ⟨_, congrArg (fun v : Int => some (Value.int v zt)) (size_add hv8).symm⟩, ⟨_, congrArg (fun v : Int => some (Value.int v yt)) (stay_add hv8).symm⟩, rfl, rfl, rfl⟩ rfl (kst_newsOf (by assumption) ledLC) (I.addOld h1 h4 hv8 G8 e1 (by rw [e2]; simp [goneOf, hf, absO]) P4 hin (ndL D4)) (fun y hy => hin y (List.mem_append_right _ hy))
end
end
section
-- LDeed6
open PySem PySem.W PySem.Calls PyProof.Rows
theorem rules_LDeed60 : True := by
  k_with_none
  k_with "ne" => (refine neN ?_; (try dsimp only); first | assumption | (apply Ne.symm; assumption))
  k_with "tone" => (refine neN ?_; (try dsimp only); first | assumption | (apply Ne.symm; assumption))
  k_with "mem" => assumption
  k_with "subscriptTail" => (k_here; (with_reducible show wpAny _ _ (subscriptTail _ _ (Value.ref _) (Value.int _ _)) _ _ _); k_dflt (refine' kda_item (knd := PySem.intKind _ _) ?Nr ?mr ?dr (intKind_is _ _ _ _) ?vr ?_; (case Nr => k_asm); (case mr => k_mem); (case dr => assumption); (case vr => assumption)))
  k_with "getItem ref int" => (k_here; k_dflt (refine' gi_sym ?Nr ?mr ?dr ?vr ?_; (case Nr => k_asm); (case mr => k_mem); (case dr => assumption); (case vr => assumption); k_whole))
  k_with "call builtin:len" => (k_here; (with_reducible show wpAny _ _ (call (Value.builtin "len") [Value.ref _]) _ _ _); k_dflt (refine' kda_len (knd := PySem.intKind _ _) ?Nr ?mr ?dr ?lr ?zr ?_; (case Nr => k_asm); (case mr => k_mem); (case dr => assumption); (case lr => assumption); (case zr => first | assumption | lia); k_whole))
  k_with "compareOp In int ref" => (k_here; k_dflt (first
    | (refine' kda_in (knd := PySem.intKind _ _) ?Nr ?mr ?dr ?lr (intKind_is _ _ _ _) true ?br ?_; (case Nr => k_asm); (case mr => k_mem); (case dr => assumption); (case lr => assumption); (case br => exact Option.isSome_iff_exists.mpr ⟨_, by assumption⟩); k_whole)
    | (refine' kda_in (knd := PySem.intKind _ _) ?Nr ?mr ?dr ?lr (intKind_is _ _ _ _) false ?br ?_; (case Nr => k_asm); (case mr => k_mem); (case dr => assumption); (case lr => assumption); (case br => exact Option.isSome_eq_false_iff.mpr (Option.isNone_iff_eq_none.mpr (by assumption))); k_whole)))
  k_with "setItem ref int" => (k_here; k_dflt (refine' kda_set (knd := PySem.intKind _ _) ?Fr ?Nr ?Ur ?dr (intKind_is _ _ _ _) ?zr ?_; (case Fr => k_asm); (case Nr => k_asm); (case Ur => k_updF); (case dr => assumption); (case zr => assumption)); intro h'r o'r F'r N'r hd'r; (try dsimp only at N'r))
  k_with "getMethod ref" => (k_here; (with_reducible show wpAny _ _ (getMethod (Value.ref _) (Str.ofString "pop") _) _ _ _); k_dflt (refine' kob_method (knd := PySem.intKind _ _) PySem.F.slot_dict_pop PySem.F.type_dict_pop ?Nr ?mr ?dr ?_; (case Nr => k_asm); (case mr => k_mem); (case dr => assumption)))
  k_with "getMethod ref" => (k_here; (with_reducible show wpAny _ _ (getMethod (Value.ref _) (Str.ofString "get") _) _ _ _); k_dflt (refine' kdg_method (knd := PySem.intKind _ _) ?Nr ?mr ?dr ?_; (case Nr => k_asm); (case mr => k_mem); (case dr => assumption)))
  k_with "call builtin:dict.pop" => (k_here; (with_reducible show wpAny _ _ (call (Value.builtin "dict.pop") [Value.ref _, Value.int _ _]) _ _ _); k_dflt (refine' kob_pop (knd := PySem.intKind _ _) (more := []) ?Fr ?Nr ?Ur ?dr (intKind_is _ _ _ _) (.inl rfl) (by rfl) (PySem.F.args_dict_pop_2 _ _) ?lr ?zr ?_; (case Fr => k_asm); (case Nr => k_asm); (case Ur => k_updF); (case dr => assumption); (case lr => assumption); (case zr => assumption)); intro h'r o'r F'r N'r hd'r; (try dsimp only at N'r))
  k_with "call builtin:dict.get" => (k_here; (with_reducible show wpAny _ _ (call (Value.builtin "dict.get") [Value.ref _, Value.int _ _, _]) _ _ _); k_dflt (refine' kdg_get2 (knd := PySem.intKind _ _) ?Nr ?mr ?dr ?lr (intKind_is _ _ _ _) _ ?vr ?_; (case Nr => k_asm); (case mr => k_mem); (case dr => assumption); (case lr => assumption); (case vr => assumption)); (try dsimp only [Option.getD]))
  k_with "enter" => (refine' code_def ?k1r ?k2r ?k3r ?k4r ?k5r ?kAr ?kFr ?kKr ?k6r ?k7r ?k8r ?k9r ?kBr ?_ ?c2r ?c3r ?c4r ?c5r; (case kAr => exact rfl); (case kFr => exact rfl); (case kKr => first | exact rfl | assumption); (case k1r => k_asm); (case k2r => k_asm); (case k3r => k_asm); (case k4r => k_asm); (case k5r => k_asm); (case k6r => k_is); (case k7r => k_is); (case k8r => ktr_room); (case k9r => first | exact BindsTo.of_eq rfl | exact binds_K (by k_in) rfl (by k_is) rfl rfl rfl); (case c5r => decide); (case kBr => exact locs rfl); (case c2r => exact rfl); (case c3r => exact rfl); (case c4r => exact rfl); k_whole; intro g'r L'r h'r FG'r F'r N'r B'r X'r T'r; (try dsimp only); (try k_fold))
  k_with "callWith ref" => (k_here; k_dflt (refine' callWith_F ?k1r ?_; (case k1r => exact FnAt.of (by k_asm) (by k_mem)); k_whole))
  trivial
section
variable {w : World} {p : Program} {loose : List Str} {mean : ExcName → Option Value} {mg mb : Str → Option Value} {g : Heap} {x : LawFix} {fa : Addr} {s : Shared} {Q : Flow → Shared → Prop} {E : Value → Shared → Prop} {cst : CSt} {lst : LSt} {R : List (Addr × Obj)} {i : Nat} {m : Str → Option Value} {zt yt t1 t2 t3 t4 : Tok} {q key fresh : Int}
  (B : Below callerA g [] g) (X : (hd.heap_39 w.params).In g) (T : Top p loose mean mg mb g)
  (hG : GoneSpec w p loose mean mg mb x.c.ga x.c.ol x.c.S₀) (hU : UseSpec w p loose mean mg mb x.ua x.lc x.Su) (hD : DropSpec w p loose mean mg mb x.da x.lc x.Sd)
include B X T hG hU hD
theorem rules_LDeed61 : True := by
  k_with "mem" => exact List.mem_append_right _ (by assumption)
  k_with "call ref" => (k_here; (with_reducible show wpAny _ _ (call (Value.ref 121) _ _) _ _ _); (rename Inv _ _ _ _ _ _ => I9r); (rename News _ _ _ _ => N9r); k_dflt (refine' cl_ok ?g1r ?g2r ?g3r ?g4r rfl ?g6r (kst_newsOf N9r ledLC) (Inv.G I9r) ?g7r ?g8r ?_; (case g1r => k_asm); (case g2r => k_asm); (case g3r => k_asm); (case g4r => k_asm); (case g6r => ktr_room); (case g7r => assumption); (case g8r => exact I9r.hy.1)); intro cst8r X8r d8r C8r hl8r G8r h9r tk9r F9r N8r; (have N7r := kst_newsOf (kst_newsOf N8r ledX) ledCL); clear N9r N8r; (have hv8r := cut_view C8r hl8r); (have S8r := (Inv.S I9r).mono (X := X8r)); (have P8r := (Inv.P I9r).mono (X := X8r)); (have D8r := nodupL1 G8r (Inv.P I9r) I9r.S.gS); (obtain ⟨da1, da2, da3, da4, dfn8⟩ := S8r.dfn); (try dsimp only); (try k_fold))
  k_with "call ref" => (k_here; (rename DropSpec _ _ _ _ _ _ _ _ _ => hD9r); (rename Stat _ (_ ++ _) => S9r); k_dflt (refine' hD9r _ _ _ _ _ _ _ _ _ _ _ _ _ _ _ _ _ _ _ _ _ _ ?p1r ?p2r ?p3r ?p4r ?p5r ?pkr ?p6r ?p7r ?p8r ?p9r ?par ?pbr ?_; (case p1r => k_asm); (case p2r => k_asm); (case p3r => k_asm); (case p4r => assumption); (case p5r => k_asm); (case pkr => rfl); (case p6r => ktr_room); (case p7r => exact fun y hy => memLed (S9r.dS y hy)); (case par => assumption); (case p8r => exact fun y hy => memLed hy); (case p9r => assumption); (case pbr => first | assumption | lia | decide)); intro lst9r X9r he9r ho9r P9r nd9r h9r tk9r F9r N9r; (try dsimp only); (try k_fold))
  trivial
set_option maxRecDepth 100000 in
set_option maxHeartbeats 2000000 in
theorem deed6 (hi : i ≤ 64) (F : Fr g x.L s.heap (deedMap x cst.size cst.stay zt yt 6 q key fresh t1 t2 t3 t4 m)) (N : News g x.L s.heap (LedC x cst lst R)) (I : Inv w x cst lst R i) :
  wpAny (model PySem.Challenge.rw_iy0004_01.row.prog w) (callerA.deeper (envOfC (Str.ofString "law") lawScope x.L fa (.ref 183))) (exec deedIf (envOfC (Str.ofString "law") lawScope x.L fa (.ref 183))) (DeedEnd w x g s R (i + 1) key) E s := by
  revert X; k_fill; intro X
  have es : lawScope = Scope.mk _ _ _ _ _ := rfl
  have eb : deedIf = Stmt.If _ _ _ _ := rfl
  rw [es, eb]
  clear es eb
  have hsz := I.sizes hi
  have hy0 := I.hy.1
  have hca := I.ca
  have N1 := kst_newsOf N ledCL
  clear N
  k_steps
  · (rename Inv _ _ _ _ _ _ => I); (rename absS _ = vdrop _ _ => hv8)
    exact DeedEnd.intro (by assumption) ⟨rfl, ⟨_, congrArg (fun v : Int => some (Value.int v zt)) (congrArg V.size hv8).symm⟩, ⟨_, congrArg (fun v : Int => some (Value.int v yt)) (congrArg V.stay hv8).symm⟩, rfl, rfl, rfl⟩ rfl (kst_newsOf (by assumption) ledY) (I.drop hv8 (by assumption) (by assumption) (by assumption) (by assumption) (by assumption) I.hz I.hy (by have := I.hy; lia)) (fun y hy => List.mem_append_right _ (List.mem_append_right _ hy))
  · (rename Inv _ _ _ _ _ _ => I)
    exact DeedEnd.intro F ⟨rfl, ⟨_, rfl⟩, ⟨_, rfl⟩, rfl, rfl, rfl⟩ rfl (kst_newsOf (by assumption) ledLC) (I.later (Nat.le_succ i)) (fun _ h => h)
end
end
section
-- LDeed5
open PySem PySem.W PySem.Calls PyProof.Rows
theorem rules_LDeed50 : True := by
  k_with_none
  k_with "ne" => (refine neN ?_; (try dsimp only); first | assumption | (apply Ne.symm; assumption))
  k_with "tone" => (refine neN ?_; (try dsimp only); first | assumption | (apply Ne.symm; assumption))
  k_with "mem" => (first | assumption | exact mem_at 0 rfl | exact mem_at 1 rfl | exact mem_at 2 rfl | exact mem_at 3 rfl | exact mem_at 4 rfl | exact mem_at 5 rfl | exact mem_dr 1 (by assumption) | exact mem_dr 2 (by assumption) | exact mem_dr 3 (by assumption) | exact mem_dr 4 (by assumption) | exact mem_dr 5 (by assumption))
  k_with "getAttr ref" => (k_here; k_dflt ((first | (with_reducible refine' gN_p ?F1r ?X1r ?N1r ?h1r ?h2r ?v1r ?_) | (with_reducible refine' gN_nx ?F1r ?X1r ?N1r ?h1r ?h2r ?v1r ?_) | (with_reducible refine' gN_k ?F1r ?X1r ?N1r ?h1r ?h2r ?v1r ?_) | (with_reducible refine' gN_v ?F1r ?X1r ?N1r ?h1r ?h2r ?v1r ?_) | (with_reducible refine' gN_c ?F1r ?X1r ?N1r ?h1r ?h2r ?v1r ?_) | (with_reducible refine' gC_c ?F1r ?X1r ?N1r ?h1r ?h2r ?v1r ?_) | (with_reducible refine' gC_r ?F1r ?X1r ?N1r ?h1r ?h2r ?v1r ?_) | (with_reducible refine' gC_l ?F1r ?X1r ?N1r ?h1r ?h2r ?v1r ?_) | (with_reducible refine' gC_z ?F1r ?X1r ?N1r ?h1r ?h2r ?v1r ?_) | (with_reducible refine' gC_y ?F1r ?X1r ?N1r ?h1r ?h2r ?v1r ?_)); (case F1r => k_asm); (case X1r => k_asm); (case N1r => k_asm); (case h1r => k_mem); (case h2r => k_mem); (case v1r => k_handed); k_whole))
  k_with "setAttr ref" => (k_here; k_dflt (first | ((first | (with_reducible refine' sN_p ?F1r ?X1r ?N1r ?h1r ?h2r ?U1r ?_) | (with_reducible refine' sN_nx ?F1r ?X1r ?N1r ?h1r ?h2r ?U1r ?_) | (with_reducible refine' sN_v ?F1r ?X1r ?N1r ?h1r ?h2r ?U1r ?_) | (with_reducible refine' sN_c ?F1r ?X1r ?N1r ?h1r ?h2r ?U1r ?_) | (with_reducible refine' sC_r ?F1r ?X1r ?N1r ?h1r ?h2r ?U1r ?_) | (with_reducible refine' sC_l ?F1r ?X1r ?N1r ?h1r ?h2r ?U1r ?_) | (with_reducible refine' sC_z ?F1r ?X1r ?N1r ?h1r ?h2r ?U1r ?_) | (with_reducible refine' sC_y ?F1r ?X1r ?N1r ?h1r ?h2r ?U1r ?_)); (case F1r => k_asm); (case X1r => k_asm); (case N1r => k_asm); (case h1r => k_mem); (case h2r => k_mem); (case U1r => (first | exact upd_nd 0 (by assumption) rfl | exact upd_nd 1 (by assumption) rfl | exact upd_nd 2 (by assumption) rfl | exact upd_nd 3 (by assumption) rfl | exact upd_nd 4 (by assumption) rfl | exact upd_nd 5 (by assumption) rfl | k_upd)); k_whole) | (refine' set_dict ?k1r ?k2r ?k3r ?k4r ?k5r ?k6r ?k7r ?k8r ?k9r ?k10r ?k11r ?k12r ?k13r ?_; (case k1r => k_asm); (case k2r => k_asm); (case k3r => k_asm); (case k4r => k_inst); (case k5r => exact rfl); (case k6r => k_is); (case k7r => k_is); (case k8r => k_is); (case k9r => k_is); (case k10r => k_get); (case k11r => k_put); (case k12r => (first | exact upd_nd 0 (by assumption) rfl | exact upd_nd 1 (by assumption) rfl | exact upd_nd 2 (by assumption) rfl | exact upd_nd 3 (by assumption) rfl | exact upd_nd 4 (by assumption) rfl | exact upd_nd 5 (by assumption) rfl | k_upd)); (case k13r => exact Nat.le_of_ble_eq_true rfl); k_whole)); (refine (?_ : let l9 := _; ∀ h', Fr _ _ h' _ → News _ _ h' l9 → _)); intro l9r h'r F'r N'r; (try k_sweep))
  k_with "subscriptTail" => (k_here; (with_reducible show wpAny _ _ (subscriptTail _ _ (Value.ref _) (Value.int _ _)) _ _ _); k_dflt (refine' kda_item (knd := PySem.intKind _ _) ?Nr ?mr ?dr (intKind_is _ _ _ _) ?vr ?_; (case Nr => k_asm); (case mr => k_mem); (case dr => assumption); (case vr => assumption)))
  k_with "getItem ref int" => (k_here; k_dflt (refine' gi_sym ?Nr ?mr ?dr ?vr ?_; (case Nr => k_asm); (case mr => k_mem); (case dr => assumption); (case vr => assumption); k_whole))
  k_with "call builtin:len" => (k_here; (with_reducible show wpAny _ _ (call (Value.builtin "len") [Value.ref _]) _ _ _); k_dflt (refine' kda_len (knd := PySem.intKind _ _) ?Nr ?mr ?dr ?lr ?zr ?_; (case Nr => k_asm); (case mr => k_mem); (case dr => assumption); (case lr => assumption); (case zr => first | assumption | omega); k_whole))
  k_with "compareOp In int ref" => (k_here; k_dflt (first
    | (refine' kda_in (knd := PySem.intKind _ _) ?Nr ?mr ?dr ?lr (intKind_is _ _ _ _) true ?br ?_; (case Nr => k_asm); (case mr => k_mem); (case dr => assumption); (case lr => assumption); (case br => exact Option.isSome_iff_exists.mpr ⟨_, by assumption⟩); k_whole)
    | (refine' kda_in (knd := PySem.intKind _ _) ?Nr ?mr ?dr ?lr (intKind_is _ _ _ _) false ?br ?_; (case Nr => k_asm); (case mr => k_mem); (case dr => assumption); (case lr => assumption); (case br => exact Option.isSome_eq_false_iff.mpr (Option.isNone_iff_eq_none.mpr (by assumption))); k_whole)))
  k_with "setItem ref int" => (k_here; k_dflt (refine' kda_set (knd := PySem.intKind _ _) ?Fr ?Nr ?Ur ?dr (intKind_is _ _ _ _) ?zr ?_; (case Fr => k_asm); (case Nr => k_asm); (case Ur => (first | exact updF_nd 0 (by assumption) rfl | exact updF_nd 1 (by assumption) rfl | exact updF_nd 2 (by assumption) rfl | exact updF_nd 3 (by assumption) rfl | exact updF_nd 4 (by assumption) rfl | exact updF_nd 5 (by assumption) rfl | k_updF)); (case dr => assumption); (case zr => assumption)); intro h'r o'r F'r N'r hd'r; (try dsimp only at N'r); (let n7r := newsOf N'r); (have N7r : News _ _ _ n7r := N'r))
  k_with "getMethod ref" => (k_here; (with_reducible show wpAny _ _ (getMethod (Value.ref _) (Str.ofString "pop") _) _ _ _); k_dflt (refine' kob_method (knd := PySem.intKind _ _) PySem.F.slot_dict_pop PySem.F.type_dict_pop ?Nr ?mr ?dr ?_; (case Nr => k_asm); (case mr => k_mem); (case dr => assumption)))
  k_with "getMethod ref" => (k_here; (with_reducible show wpAny _ _ (getMethod (Value.ref _) (Str.ofString "get") _) _ _ _); k_dflt (refine' kdg_method (knd := PySem.intKind _ _) ?Nr ?mr ?dr ?_; (case Nr => k_asm); (case mr => k_mem); (case dr => assumption)))
  k_with "call builtin:dict.pop" => (k_here; (with_reducible show wpAny _ _ (call (Value.builtin "dict.pop") [Value.ref _, Value.int _ _]) _ _ _); k_dflt (refine' kob_pop (knd := PySem.intKind _ _) (more := []) ?Fr ?Nr ?Ur ?dr (intKind_is _ _ _ _) (.inl rfl) (by rfl) (PySem.F.args_dict_pop_2 _ _) ?lr ?zr ?_; (case Fr => k_asm); (case Nr => k_asm); (case Ur => (first | exact updF_nd 0 (by assumption) rfl | exact updF_nd 1 (by assumption) rfl | exact updF_nd 2 (by assumption) rfl | exact updF_nd 3 (by assumption) rfl | exact updF_nd 4 (by assumption) rfl | exact updF_nd 5 (by assumption) rfl | k_updF)); (case dr => assumption); (case lr => assumption); (case zr => assumption)); intro h'r o'r F'r N'r hd'r; (try dsimp only at N'r); (let n7r := newsOf N'r); (have N7r : News _ _ _ n7r := N'r))
  k_with "call builtin:dict.get" => (k_here; (with_reducible show wpAny _ _ (call (Value.builtin "dict.get") [Value.ref _, Value.int _ _, _]) _ _ _); k_dflt (refine' kdg_get2 (knd := PySem.intKind _ _) ?Nr ?mr ?dr ?lr (intKind_is _ _ _ _) _ ?vr ?_; (case Nr => k_asm); (case mr => k_mem); (case dr => assumption); (case lr => assumption); (case vr => assumption)); (try dsimp only [Option.getD]))
  k_with "enter" => (refine' code_def ?k1r ?k2r ?k3r ?k4r ?k5r ?kAr ?kFr ?kKr ?k6r ?k7r ?k8r ?k9r ?kBr ?_ ?c2r ?c3r ?c4r ?c5r; (case kAr => exact rfl); (case kFr => exact rfl); (case kKr => first | exact rfl | assumption); (case k1r => k_asm); (case k2r => k_asm); (case k3r => k_asm); (case k4r => k_asm); (case k5r => k_asm); (case k6r => k_is); (case k7r => k_is); (case k8r => (first | exact room9 0 (by assumption) rfl | exact room9 1 (by assumption) rfl | exact room9 2 (by assumption) rfl | exact room9 3 (by assumption) rfl | exact room9 4 (by assumption) rfl | exact room9 5 (by assumption) rfl | exact room9 6 (by assumption) rfl | exact room9 7 (by assumption) rfl | exact room9 8 (by assumption) rfl | ktr_room)); (case k9r => first | exact BindsTo.of_eq rfl | exact binds_K (by k_in) rfl (by k_is) rfl rfl rfl); (case c5r => decide); (case kBr => exact locs rfl); (case c2r => exact rfl); (case c3r => exact rfl); (case c4r => exact rfl); k_whole; (refine (?_ : let m9 := _; ∀ g L h, Fr _ _ g _ → Fr _ _ h m9 → _)); intro m9r g'r L'r h'r FG'r F'r N'r B'r X'r T'r; (try dsimp only); (try k_fold); (refine (?_ : let e9 := _; let A9 := _; wpAny _ A9 (execs _ e9) _ _ _)); intro e9r A9r; (try ((with_reducible refine gen_tk ?_); intro tk9r)))
  k_with "callWith ref" => (k_here; k_dflt (refine' callWith_F ?k1r ?_; (case k1r => exact FnAt.of (by k_asm) (by k_mem)); k_whole))
  trivial
section
variable {w : World} {p : Program} {loose : List Str} {mean : ExcName → Option Value} {mg mb : Str → Option Value} {g : Heap} {x : LawFix} {fa : Addr} {s : Shared} {Q : Flow → Shared → Prop} {E : Value → Shared → Prop} {cst : CSt} {lst : LSt} {R : List (Addr × Obj)} {i : Nat} {m : Str → Option Value} {zt yt t1 t2 t3 t4 : Tok} {q key fresh : Int}
  (B : Below callerA g [] g) (X : (hd.heap_39 w.params).In g) (T : Top p loose mean mg mb g)
  (hG : GoneSpec w p loose mean mg mb x.c.ga x.c.ol x.c.S₀) (hU : UseSpec w p loose mean mg mb x.ua x.lc x.Su) (hD : DropSpec w p loose mean mg mb x.da x.lc x.Sd)
include B X T hG hU hD
theorem rules_LDeed51 : True := by
  k_with "mem" => exact List.mem_append_right _ (by assumption)
  k_with "call ref" => (k_here; (with_reducible show wpAny _ _ (call (Value.ref 164) _ _) _ _ _); (rename Inv _ _ _ _ _ _ => I9r); (rename News _ _ _ _ => N9r); k_dflt (refine' rs_any (y := (fresh.fdiv 5).fmod 7 - 1) ?g1r ?g2r ?g3r ?g4r rfl ?g6r (kst_newsOf N9r ledLC) (Inv.G I9r) ?g7r hsz1 ?gvr ?_; (case g1r => k_asm); (case g2r => k_asm); (case g3r => k_asm); (case g4r => k_asm); (case g6r => (first | exact room9 0 (by assumption) rfl | exact room9 1 (by assumption) rfl | exact room9 2 (by assumption) rfl | exact room9 3 (by assumption) rfl | exact room9 4 (by assumption) rfl | exact room9 5 (by assumption) rfl | exact room9 6 (by assumption) rfl | exact room9 7 (by assumption) rfl | exact room9 8 (by assumption) rfl | ktr_room)); (case g7r => assumption); (case gvr => assumption)); intro cst8r X8r hv8r G8r h9r tk9r F9r N8r; (have N7r := kst_newsOf (kst_newsOf N8r ledX) ledCL); clear N9r N8r; (have S8r := (Inv.S I9r).mono (X := X8r)); (have P8r := (Inv.P I9r).mono (X := X8r)); (have D8r := nodupL1 G8r (Inv.P I9r) I9r.S.gS); (obtain ⟨da1, da2, da3, da4, dfn8⟩ := S8r.dfn); (try dsimp only); (try k_fold))
  k_with "eval IfExp" => (k_here; (with_reducible show wpAny _ _ (eval (Expr.IfExp _ (Expr.BinOp _ _ _ _) _ _) _) _ _ _); (fail_if_success (with_reducible show wpAny _ _ _ (MidN _ _ _ _ _ _) _ _)); k_dflt (refine' mid_N (stayOf (1 + fresh.fmod 5) ((fresh.fdiv 5).fmod 7 - 1)) ?f1r ?n1r ?_ ?_; (case f1r => k_asm); (case n1r => k_asm)); rotate_left; intro h9r tk9r t9r F9r N9r; (try dsimp only))
  k_with "eval IfExp" => (k_here; (with_reducible show wpAny _ _ (eval (Expr.IfExp _ (Expr.Constant _ _ _) _ _) _) _ _ _); (fail_if_success (with_reducible show wpAny _ _ _ (MidK _ _) _ _)); (refine mid_K ((fresh.fdiv 5).fmod 7 - 1) ?_ ?_); rotate_left; intro v9r tk9r hv9r; (try dsimp only))
  k_with "call ref" => (k_here; (rename DropSpec _ _ _ _ _ _ _ _ _ => hD9r); (rename Stat _ (_ ++ _) => S9r); k_dflt (refine' hD9r _ _ _ _ _ _ _ _ _ _ _ _ _ _ _ _ _ _ _ _ _ _ ?p1r ?p2r ?p3r ?p4r ?p5r ?pkr ?p6r ?p7r ?p8r ?p9r ?par ?pbr ?_; (case p1r => k_asm); (case p2r => k_asm); (case p3r => k_asm); (case p4r => assumption); (case p5r => k_asm); (case pkr => rfl); (case p6r => (first | exact room9 0 (by assumption) rfl | exact room9 1 (by assumption) rfl | exact room9 2 (by assumption) rfl | exact room9 3 (by assumption) rfl | exact room9 4 (by assumption) rfl | exact room9 5 (by assumption) rfl | exact room9 6 (by assumption) rfl | exact room9 7 (by assumption) rfl | exact room9 8 (by assumption) rfl | ktr_room)); (case p7r => exact fun y hy => memLed (S9r.dS y hy)); (case par => assumption); (case p8r => exact fun y hy => memLed hy); (case p9r => assumption); (case pbr => first | assumption | omega | decide | (split <;> omega))); intro lst9r X9r he9r ho9r P9r nd9r h9r tk9r F9r N9r; (try dsimp only); (try k_fold))
  trivial
set_option maxRecDepth 100000 in
set_option maxHeartbeats 2000000 in
theorem deed5 (hi : i ≤ 64) (F : Fr g x.L s.heap (deedMap x cst.size cst.stay zt yt 5 q key fresh t1 t2 t3 t4 m)) (N : News g x.L s.heap (LedC x cst lst R)) (I : Inv w x cst lst R i) :
  wpAny (model PySem.Challenge.rw_iy0004_01.row.prog w) (callerA.deeper (envOfC (Str.ofString "law") lawScope x.L fa (.ref 183))) (exec deedIf (envOfC (Str.ofString "law") lawScope x.L fa (.ref 183))) (DeedEnd w x g s R (i + 1) key) E s := by
  revert X; k_fill; intro X
  have es : lawScope = Scope.mk _ _ _ _ _ := rfl
  have eb : deedIf = Stmt.If _ _ _ _ := rfl
  rw [es, eb]
  clear es eb
  have hsz1 : 1 ≤ 1 + fresh.fmod 5 ∧ 1 + fresh.fmod 5 ≤ 5 := by rw [Int.fmod_eq_emod_of_nonneg _ (by decide)]; omega
  obtain ⟨hs0, hs1⟩ := stayOf_bounds (y := (fresh.fdiv 5).fmod 7 - 1) hsz1.1
  have hsz := I.sizes hi
  have hca := I.ca
  have N1 := kst_newsOf N ledCL
  clear N
  k_steps
  all_goals first | exact MidN.neg (by assumption) (by assumption) (by assumption) | exact MidN.pos (by assumption) (by assumption) (by assumption) | exact MidK.neg (by assumption) | exact MidK.pos (by assumption) | skip
  (rename Inv _ _ _ _ _ _ => I); (rename absS _ = vdrop _ _ => hv8)
  exact DeedEnd.intro (by assumption) ⟨rfl, ⟨_, congrArg (fun v : Int => some (Value.int v _)) (congrArg V.size hv8).symm⟩, ⟨_, congrArg (fun v : Int => some (Value.int v _)) (congrArg V.stay hv8).symm⟩, rfl, rfl, rfl⟩ rfl (kst_newsOf (by assumption) ledY) (I.drop hv8 (by assumption) (by assumption) (by assumption) (by assumption) (by assumption) hsz1 ⟨hs0, hs1⟩ (by rw [Int.toNat_of_nonneg hs0]; exact hs1)) (fun y hy => List.mem_append_right _ (List.mem_append_right _ hy))
end
end
section
-- LDeed7
open PySem PySem.W PySem.Calls PyProof.Rows
theorem rules_LDeed70 : True := by
  k_with_none
  k_with "ne" => (refine neN ?_; (try dsimp only); first | assumption | (apply Ne.symm; assumption))
  k_with "tone" => (refine neN ?_; (try dsimp only); first | assumption | (apply Ne.symm; assumption))
  k_with "mem" => assumption
  k_with "subscriptTail" => (k_here; (with_reducible show wpAny _ _ (subscriptTail _ _ (Value.ref _) (Value.int _ _)) _ _ _); k_dflt (refine' kda_item (knd := PySem.intKind _ _) ?Nr ?mr ?dr (intKind_is _ _ _ _) ?vr ?_; (case Nr => k_asm); (case mr => k_mem); (case dr => assumption); (case vr => assumption)))
  k_with "getItem ref int" => (k_here; k_dflt (refine' gi_sym ?Nr ?mr ?dr ?vr ?_; (case Nr => k_asm); (case mr => k_mem); (case dr => assumption); (case vr => assumption); k_whole))
  k_with "call builtin:len" => (k_here; (with_reducible show wpAny _ _ (call (Value.builtin "len") [Value.ref _]) _ _ _); k_dflt (refine' kda_len (knd := PySem.intKind _ _) ?Nr ?mr ?dr ?lr ?zr ?_; (case Nr => k_asm); (case mr => k_mem); (case dr => assumption); (case lr => assumption); (case zr => first | assumption | lia); k_whole))
  k_with "compareOp In int ref" => (k_here; k_dflt (first
    | (refine' kda_in (knd := PySem.intKind _ _) ?Nr ?mr ?dr ?lr (intKind_is _ _ _ _) true ?br ?_; (case Nr => k_asm); (case mr => k_mem); (case dr => assumption); (case lr => assumption); (case br => exact Option.isSome_iff_exists.mpr ⟨_, by assumption⟩); k_whole)
    | (refine' kda_in (knd := PySem.intKind _ _) ?Nr ?mr ?dr ?lr (intKind_is _ _ _ _) false ?br ?_; (case Nr => k_asm); (case mr => k_mem); (case dr => assumption); (case lr => assumption); (case br => exact Option.isSome_eq_false_iff.mpr (Option.isNone_iff_eq_none.mpr (by assumption))); k_whole)))
  k_with "setItem ref int" => (k_here; k_dflt (refine' kda_set (knd := PySem.intKind _ _) ?Fr ?Nr ?Ur ?dr (intKind_is _ _ _ _) ?zr ?_; (case Fr => k_asm); (case Nr => k_asm); (case Ur => k_updF); (case dr => assumption); (case zr => assumption)); intro h'r o'r F'r N'r hd'r; (try dsimp only at N'r))
  k_with "getMethod ref" => (k_here; (with_reducible show wpAny _ _ (getMethod (Value.ref _) (Str.ofString "pop") _) _ _ _); k_dflt (refine' kob_method (knd := PySem.intKind _ _) PySem.F.slot_dict_pop PySem.F.type_dict_pop ?Nr ?mr ?dr ?_; (case Nr => k_asm); (case mr => k_mem); (case dr => assumption)))
  k_with "getMethod ref" => (k_here; (with_reducible show wpAny _ _ (getMethod (Value.ref _) (Str.ofString "get") _) _ _ _); k_dflt (refine' kdg_method (knd := PySem.intKind _ _) ?Nr ?mr ?dr ?_; (case Nr => k_asm); (case mr => k_mem); (case dr => assumption)))
  k_with "call builtin:dict.pop" => (k_here; (with_reducible show wpAny _ _ (call (Value.builtin "dict.pop") [Value.ref _, Value.int _ _]) _ _ _); k_dflt (refine' kob_pop (knd := PySem.intKind _ _) (more := []) ?Fr ?Nr ?Ur ?dr (intKind_is _ _ _ _) (.inl rfl) (by rfl) (PySem.F.args_dict_pop_2 _ _) ?lr ?zr ?_; (case Fr => k_asm); (case Nr => k_asm); (case Ur => k_updF); (case dr => assumption); (case lr => assumption); (case zr => assumption)); intro h'r o'r F'r N'r hd'r; (try dsimp only at N'r))
  k_with "call builtin:dict.get" => (k_here; (with_reducible show wpAny _ _ (call (Value.builtin "dict.get") [Value.ref _, Value.int _ _, _]) _ _ _); k_dflt (refine' kdg_get2 (knd := PySem.intKind _ _) ?Nr ?mr ?dr ?lr (intKind_is _ _ _ _) _ ?vr ?_; (case Nr => k_asm); (case mr => k_mem); (case dr => assumption); (case lr => assumption); (case vr => assumption)); (try dsimp only [Option.getD]))
  k_with "enter" => (refine' code_def ?k1r ?k2r ?k3r ?k4r ?k5r ?kAr ?kFr ?kKr ?k6r ?k7r ?k8r ?k9r ?kBr ?_ ?c2r ?c3r ?c4r ?c5r; (case kAr => exact rfl); (case kFr => exact rfl); (case kKr => first | exact rfl | assumption); (case k1r => k_asm); (case k2r => k_asm); (case k3r => k_asm); (case k4r => k_asm); (case k5r => k_asm); (case k6r => k_is); (case k7r => k_is); (case k8r => ktr_room); (case k9r => first | exact BindsTo.of_eq rfl | exact binds_K (by k_in) rfl (by k_is) rfl rfl rfl); (case c5r => decide); (case kBr => exact locs rfl); (case c2r => exact rfl); (case c3r => exact rfl); (case c4r => exact rfl); k_whole; intro g'r L'r h'r FG'r F'r N'r B'r X'r T'r; (try dsimp only); (try k_fold))
  k_with "callWith ref" => (k_here; k_dflt (refine' callWith_F ?k1r ?_; (case k1r => exact FnAt.of (by k_asm) (by k_mem)); k_whole))
  trivial
section
variable {w : World} {p : Program} {loose : List Str} {mean : ExcName → Option Value} {mg mb : Str → Option Value} {g : Heap} {x : LawFix} {fa : Addr} {s : Shared} {Q : Flow → Shared → Prop} {E : Value → Shared → Prop} {cst : CSt} {lst : LSt} {R : List (Addr × Obj)} {i : Nat} {m : Str → Option Value} {zt yt t1 t2 t3 t4 : Tok} {q key fresh : Int}
  (B : Below callerA g [] g) (X : (hd.heap_39 w.params).In g) (T : Top p loose mean mg mb g)
  (hG : GoneSpec w p loose mean mg mb x.c.ga x.c.ol x.c.S₀) (hU : UseSpec w p loose mean mg mb x.ua x.lc x.Su) (hD : DropSpec w p loose mean mg mb x.da x.lc x.Sd)
include B X T hG hU hD
theorem rules_LDeed71 : True := by
  k_with "mem" => exact List.mem_append_right _ (by assumption)
  k_with "call ref" => (k_here; (with_reducible show wpAny _ _ (call (Value.ref 156) _ _) _ _ _); (rename Inv _ _ _ _ _ _ => I9r); (rename News _ _ _ _ => N9r); k_dflt (refine' cr_ok ?g1r ?g2r ?g3r ?g4r rfl ?g6r (kst_newsOf N9r ledLC) (Inv.G I9r) ?g7r ?_; (case g1r => k_asm); (case g2r => k_asm); (case g3r => k_asm); (case g4r => k_asm); (case g6r => ktr_room); (case g7r => assumption)); intro cst8r X8r d8r C8r hl8r G8r h9r tk9r F9r N8r; (have N7r := kst_newsOf (kst_newsOf N8r ledX) ledCL); clear N9r N8r; (have hv8r := cut_view (m := 0) C8r (by rw [hl8r]; simp)); (have S8r := (Inv.S I9r).mono (X := X8r)); (have P8r := (Inv.P I9r).mono (X := X8r)); (have D8r := nodupL1 G8r (Inv.P I9r) I9r.S.gS); (obtain ⟨da1, da2, da3, da4, dfn8⟩ := S8r.dfn); (try dsimp only); (try k_fold))
  k_with "call ref" => (k_here; (rename DropSpec _ _ _ _ _ _ _ _ _ => hD9r); (rename Stat _ (_ ++ _) => S9r); k_dflt (refine' hD9r _ _ _ _ _ _ _ _ _ _ _ _ _ _ _ _ _ _ _ _ _ _ ?p1r ?p2r ?p3r ?p4r ?p5r ?pkr ?p6r ?p7r ?p8r ?p9r ?par ?pbr ?_; (case p1r => k_asm); (case p2r => k_asm); (case p3r => k_asm); (case p4r => assumption); (case p5r => k_asm); (case pkr => rfl); (case p6r => ktr_room); (case p7r => exact fun y hy => memLed (S9r.dS y hy)); (case par => assumption); (case p8r => exact fun y hy => memLed hy); (case p9r => assumption); (case pbr => first | assumption | lia | decide)); intro lst9r X9r he9r ho9r P9r nd9r h9r tk9r F9r N9r; (try dsimp only); (try k_fold))
  trivial
set_option maxRecDepth 100000 in
set_option maxHeartbeats 2000000 in
theorem deed7 (hi : i ≤ 64) (F : Fr g x.L s.heap (deedMap x cst.size cst.stay zt yt 7 q key fresh t1 t2 t3 t4 m)) (N : News g x.L s.heap (LedC x cst lst R)) (I : Inv w x cst lst R i) :
  wpAny (model PySem.Challenge.rw_iy0004_01.row.prog w) (callerA.deeper (envOfC (Str.ofString "law") lawScope x.L fa (.ref 183))) (exec deedIf (envOfC (Str.ofString "law") lawScope x.L fa (.ref 183))) (DeedEnd w x g s R (i + 1) key) E s := by
  revert X; k_fill; intro X
  have es : lawScope = Scope.mk _ _ _ _ _ := rfl
  have eb : deedIf = Stmt.If _ _ _ _ := rfl
  rw [es, eb]
  clear es eb
  have hsz := I.sizes hi
  have hy0 := I.hy.1
  have hca := I.ca
  have N1 := kst_newsOf N ledCL
  clear N
  k_steps
  · (rename Inv _ _ _ _ _ _ => I); (rename absS _ = vdrop _ _ => hv8)
    exact DeedEnd.intro (by assumption) ⟨rfl, ⟨_, congrArg (fun v : Int => some (Value.int v zt)) (congrArg V.size hv8).symm⟩, ⟨_, congrArg (fun v : Int => some (Value.int v yt)) (congrArg V.stay hv8).symm⟩, rfl, rfl, rfl⟩ rfl (kst_newsOf (by assumption) ledY) (I.drop hv8 (by assumption) (by assumption) (by assumption) (by assumption) (by assumption) I.hz I.hy (by have := I.hy; lia)) (fun y hy => List.mem_append_right _ (List.mem_append_right _ hy))
  · (rename Inv _ _ _ _ _ _ => I)
    exact DeedEnd.intro F ⟨rfl, ⟨_, rfl⟩, ⟨_, rfl⟩, rfl, rfl, rfl⟩ rfl (kst_newsOf (by assumption) ledLC) (I.later (Nat.le_succ i)) (fun _ h => h)
end
end
section
-- LChk5
open PySem PySem.W PySem.Calls PyProof.Rows
theorem rules_LChk50 : True := by
  k_with_none
  k_with "ne" => (refine neN ?_; (try dsimp only); first | assumption | (apply Ne.symm; assumption))
  k_with "tone" => (refine neN ?_; (try dsimp only); first | assumption | (apply Ne.symm; assumption))
  k_with "mem" => assumption
  k_with "subscriptTail" => (k_here; (with_reducible show wpAny _ _ (subscriptTail _ _ (Value.ref _) (Value.int _ _)) _ _ _); k_dflt (refine' kda_item (knd := PySem.intKind _ _) ?Nr ?mr ?dr (intKind_is _ _ _ _) ?vr ?_; (case Nr => k_asm); (case mr => k_mem); (case dr => assumption); (case vr => assumption)))
  k_with "getItem ref int" => (k_here; k_dflt (refine' gi_sym ?Nr ?mr ?dr ?vr ?_; (case Nr => k_asm); (case mr => k_mem); (case dr => assumption); (case vr => assumption); k_whole))
  k_with "call builtin:len" => (k_here; (with_reducible show wpAny _ _ (call (Value.builtin "len") [Value.ref _]) _ _ _); k_dflt (refine' kda_len (knd := PySem.intKind _ _) ?Nr ?mr ?dr ?lr ?zr ?_; (case Nr => k_asm); (case mr => k_mem); (case dr => assumption); (case lr => assumption); (case zr => first | assumption | lia); k_whole))
  k_with "compareOp In int ref" => (k_here; k_dflt (first
    | (refine' kda_in (knd := PySem.intKind _ _) ?Nr ?mr ?dr ?lr (intKind_is _ _ _ _) true ?br ?_; (case Nr => k_asm); (case mr => k_mem); (case dr => assumption); (case lr => assumption); (case br => exact Option.isSome_iff_exists.mpr ⟨_, by assumption⟩); k_whole)
    | (refine' kda_in (knd := PySem.intKind _ _) ?Nr ?mr ?dr ?lr (intKind_is _ _ _ _) false ?br ?_; (case Nr => k_asm); (case mr => k_mem); (case dr => assumption); (case lr => assumption); (case br => exact Option.isSome_eq_false_iff.mpr (Option.isNone_iff_eq_none.mpr (by assumption))); k_whole)))
  k_with "setItem ref int" => (k_here; k_dflt (refine' kda_set (knd := PySem.intKind _ _) ?Fr ?Nr ?Ur ?dr (intKind_is _ _ _ _) ?zr ?_; (case Fr => k_asm); (case Nr => k_asm); (case Ur => k_updF); (case dr => assumption); (case zr => assumption)); intro h'r o'r F'r N'r hd'r; (try dsimp only at N'r))
  k_with "getMethod ref" => (k_here; (with_reducible show wpAny _ _ (getMethod (Value.ref _) (Str.ofString "pop") _) _ _ _); k_dflt (refine' kob_method (knd := PySem.intKind _ _) PySem.F.slot_dict_pop PySem.F.type_dict_pop ?Nr ?mr ?dr ?_; (case Nr => k_asm); (case mr => k_mem); (case dr => assumption)))
  k_with "getMethod ref" => (k_here; (with_reducible show wpAny _ _ (getMethod (Value.ref _) (Str.ofString "get") _) _ _ _); k_dflt (refine' kdg_method (knd := PySem.intKind _ _) ?Nr ?mr ?dr ?_; (case Nr => k_asm); (case mr => k_mem); (case dr => assumption)))
  k_with "call builtin:dict.pop" => (k_here; (with_reducible show wpAny _ _ (call (Value.builtin "dict.pop") [Value.ref _, Value.int _ _]) _ _ _); k_dflt (refine' kob_pop (knd := PySem.intKind _ _) (more := []) ?Fr ?Nr ?Ur ?dr (intKind_is _ _ _ _) (.inl rfl) (by rfl) (PySem.F.args_dict_pop_2 _ _) ?lr ?zr ?_; (case Fr => k_asm); (case Nr => k_asm); (case Ur => k_updF); (case dr => assumption); (case lr => assumption); (case zr => assumption)); intro h'r o'r F'r N'r hd'r; (try dsimp only at N'r))
  k_with "call builtin:dict.get" => (k_here; (with_reducible show wpAny _ _ (call (Value.builtin "dict.get") [Value.ref _, Value.int _ _, _]) _ _ _); k_dflt (refine' kdg_get2 (knd := PySem.intKind _ _) ?Nr ?mr ?dr ?lr (intKind_is _ _ _ _) _ ?vr ?_; (case Nr => k_asm); (case mr => k_mem); (case dr => assumption); (case lr => assumption); (case vr => assumption)); (try dsimp only [Option.getD]))
  k_with "enter" => (refine' code_def ?k1r ?k2r ?k3r ?k4r ?k5r ?kAr ?kFr ?kKr ?k6r ?k7r ?k8r ?k9r ?kBr ?_ ?c2r ?c3r ?c4r ?c5r; (case kAr => exact rfl); (case kFr => exact rfl); (case kKr => first | exact rfl | assumption); (case k1r => k_asm); (case k2r => k_asm); (case k3r => k_asm); (case k4r => k_asm); (case k5r => k_asm); (case k6r => k_is); (case k7r => k_is); (case k8r => ktr_room); (case k9r => first | exact BindsTo.of_eq rfl | exact binds_K (by k_in) rfl (by k_is) rfl rfl rfl); (case c5r => decide); (case kBr => exact locs rfl); (case c2r => exact rfl); (case c3r => exact rfl); (case c4r => exact rfl); k_whole; intro g'r L'r h'r FG'r F'r N'r B'r X'r T'r; (try dsimp only); (try k_fold))
  k_with "callWith ref" => (k_here; k_dflt (refine' callWith_F ?k1r ?_; (case k1r => exact FnAt.of (by k_asm) (by k_mem)); k_whole))
  trivial
noncomputable abbrev chkMap (x : LawFix) (size stay : Int) (zt yt : Tok) (key : Int) (tkk : Tok) (m : Str → Option Value) : Str → Option Value := fun y => if y = Str.ofString "key" then some (.int key tkk) else lawMap x size stay zt yt m y
noncomputable def chk (i : Nat) : Stmt := match forBody[i]? with
  | some s => s
  | none => default
/-- behind a check nothing has turned -/
noncomputable def ChkEnd (x : LawFix) (g : Heap) (s : Shared) (M : Str → Option Value) (led : List (Addr × Obj)) (f : Flow) (s' : Shared) : Prop :=
  f = .next ∧ ∃ (h' : Heap) (tk : Nat), s' = { s with heap := h', toks := tk } ∧ Fr g x.L h' M ∧ News g x.L h' led
theorem ChkEnd.intro {x : LawFix} {g : Heap} {s : Shared} {M : Str → Option Value} {led : List (Addr × Obj)} {h' : Heap} {tk : Nat} (F : Fr g x.L h' M) (N : News g x.L h' led) : ChkEnd x g s M led .next { s with heap := h', toks := tk } := ⟨rfl, h', tk, rfl, F, N⟩
theorem consM {α : Type} {y : α} {A B : List α} (h : ∀ z, z ∈ A → z ∈ B) : ∀ z, z ∈ y :: A → z ∈ y :: B := fun z hz => by rcases List.mem_cons.mp hz with rfl | hz; exact .head _; exact .tail _ (h z hz)
noncomputable abbrev dpr (e : LEnt) : Int × Value := (e.k, Value.int e.v e.vt)
theorem Inv.same {w : World} {x : LawFix} {cst : CSt} {lst : LSt} {R : List (Addr × Obj)} {i : Nat} (I : Inv w x cst lst R i) :
    (accOf (nval cst.line) cst.kvs).length = (lst.ents.map dpr).length ∧ ∀ kv ∈ accOf (nval cst.line) cst.kvs, ∃ (x : Int) (t u : Tok), kv.2 = .int x t ∧ valueAt (lst.ents.map dpr) kv.1 = some (.int x u) := by
  have hl := congrArg List.length I.vl
  simp only [absL, absE, List.length_map] at hl
  refine ⟨by rw [List.length_map, List.length_map, I.G.len, hl], ?_⟩
  intro kv hkv
  obtain ⟨kv', hm, rfl⟩ := List.mem_map.mp hkv
  obtain ⟨n, hn, e⟩ := List.mem_map.mp (I.G.hkv.mem_iff.mp hm)
  subst e
  have hb : (n.k, n.v, n.f) ∈ absE lst.ents := by rw [← I.vl]; exact List.mem_map.mpr ⟨n, hn, rfl⟩
  obtain ⟨e, he, e2⟩ := List.mem_map.mp hb
  simp only [Prod.mk.injEq] at e2
  show ∃ (x : Int) (t u : Tok), nval cst.line n.k (Value.ref n.a) = .int x t ∧ valueAt (lst.ents.map dpr) n.k = some (.int x u)
  refine ⟨n.v, n.vt, e.vt, nval_of I.G.hkeys hn _, ?_⟩
  have hk : ((lst.ents.map dpr).map (·.1)).Nodup := by
    simpa [List.map_map, Function.comp_def] using I.P.hkeys
  refine find_of_nodup hk (List.mem_map.mpr ⟨e, he, ?_⟩)
  simp only [dpr, e2.1, e2.2.1]
theorem cons3 {α : Type} {a b c y : α} {A : List α} (h : y ∈ A) : y ∈ a :: b :: c :: A := .tail _ (.tail _ (.tail _ h))
theorem ledCL' {x : LawFix} {cst : CSt} {lst : LSt} {R : List (Addr × Obj)} {y : Addr × Obj} (h : y ∈ R) : y ∈ LedL x cst lst R := .tail _ (.tail _ (.tail _ (memLed h)))
theorem Inv.tups {w : World} {x : LawFix} {cst : CSt} {lst : LSt} {R : List (Addr × Obj)} {i : Nat} (I : Inv w x cst lst R i) : ∀ u ∈ cst.os, (u.t, u.obj) ∈ LedL x cst lst R := fun u hu =>
  ledCL' (not_dyn (X := []) I.P (I.G.hos u hu) (by simp [Tup.obj, tup2]) (by simp [Tup.obj, tup2]))
section
variable {w : World} {p : Program} {loose : List Str} {mean : ExcName → Option Value} {mg mb : Str → Option Value} {g : Heap} {x : LawFix} {fa : Addr} {s : Shared} {Q : Flow → Shared → Prop} {E : Value → Shared → Prop} {cst : CSt} {lst : LSt} {R : List (Addr × Obj)} {i : Nat} {m : Str → Option Value} {zt yt t1 t2 t3 t4 : Tok} {q key fresh : Int}
  (B : Below callerA g [] g) (X : (hd.heap_39 w.params).In g) (T : Top p loose mean mg mb g)
  (hG : GoneSpec w p loose mean mg mb x.c.ga x.c.ol x.c.S₀) (hU : UseSpec w p loose mean mg mb x.ua x.lc x.Su) (hD : DropSpec w p loose mean mg mb x.da x.lc x.Sd)
include B X T hG hU hD
theorem rules_LChk51 : True := by
  k_with "mem" => exact List.mem_append_right _ (by assumption)
  k_with "compareOp NotEq ref ref" => (k_here; k_dflt (refine' tups_ne ?Nr ?ar ?br ?usr ?wsr ?er ?ur ?_; (case Nr => k_asm); (case ar => k_mem); (case br => k_mem); (case usr => assumption); (case wsr => assumption); (case er => assumption); (case ur => ke_room)))
  k_with "call ref" => (k_here; (with_reducible show wpAny _ _ (call (Value.ref 114) _ _) _ _ _); (rename Inv _ _ _ _ _ _ => I9r); (rename News _ _ _ _ => N9r); k_dflt (refine' im_ok ?g1r ?g2r ?g3r ?g4r rfl ?g6r (kst_newsOf N9r ledLC) (Inv.G I9r) ?_; (case g1r => k_asm); (case g2r => k_asm); (case g3r => k_asm); (case g4r => k_asm); (case g6r => ktr_room)); intro D9r oD9r lo9r ho9r h9r tk9r F9r N8r; (have N7r := kst_newsOf N8r (consM ledCL)); clear N9r N8r; (try dsimp only); (try k_fold))
  k_with "eval ListComp" => (k_here; k_dflt (refine LCg.ListComp_U (F₀ := by k_asm) (by with_unfolding_all rfl) (by decide) (by rfl) (by decide) (by rfl) ?_))
  trivial
set_option maxRecDepth 100000 in
set_option maxHeartbeats 400000 in
theorem chk5 (hi : i ≤ 64) {tkk : Tok} (F : Fr g x.L s.heap (chkMap x cst.size cst.stay zt yt key tkk m)) (N : News g x.L s.heap (LedC x cst lst R)) (I : Inv w x cst lst R i) :
  wpAny (model PySem.Challenge.rw_iy0004_01.row.prog w) (callerA.deeper (envOfC (Str.ofString "law") lawScope x.L fa (.ref 183))) (exec (chk 5) (envOfC (Str.ofString "law") lawScope x.L fa (.ref 183))) (ChkEnd x g s (chkMap x cst.size cst.stay zt yt key tkk m) (LedC x cst lst R)) E s := by
  revert X; k_fill; intro X
  have es : lawScope = Scope.mk _ _ _ _ _ := rfl
  have eb : chk 5 = Stmt.If _ _ _ _ := rfl
  rw [es, eb]
  clear es eb
  have hus := I.tups
  have hws : ∀ u ∈ lst.dues, (u.t, u.obj) ∈ LedL x cst lst R := fun u hu => ledCL' (I.P.hdue u hu)
  have vo := I.vo
  have mout := I.S.mout
  have mline := I.S.mline
  have mheld := I.S.mheld
  have mdue := I.S.mdue
  have vout := I.S.vout
  have vline := I.S.vline
  have vheld := I.S.vheld
  have vdue := I.S.vdue
  have hca := I.ca
  have hsz := I.sizes hi
  have hz1 : lst.ents.length ≤ sizeLine := by rw [sizeLine_eq]; lia
  have N1 := kst_newsOf N ledCL
  clear N
  have hoh := I.P.hoh
  have hha := I.P.hha
  have hvE : ∀ e ∈ lst.ents, valueAt lst.hkvs e.k = some (.ref e.t) := fun e he => I.P.val he
  have htE : ∀ e ∈ lst.ents, (e.t, e.obj) ∈ LedL x cst lst R := fun e he => ledCL' (I.P.htup e he)
  have hhd : (x.L + 1 + 1, x.oheld) ∈ LedL x cst lst R := ledCL' I.S.mheld
  have hho : (x.lc.ha, lst.oh) ∈ LedL x cst lst R := .tail _ (.tail _ (.head _))
  have same := I.same
  k_steps
  (rename Inv _ _ _ _ _ _ => I); (rename News _ _ _ _ => N9); (rename Fr _ _ _ _ => F9); (rename Obj.IsDictOf _ _ (accOf _ _) => ho9); (rename (_ == sysModules) = false => lo9)
  refine comp_src rfl F9 N9 (by k_mem) hz1 ?_ ?_
  · skip
    intro e he I' oI C oC D oD m₂ news E' s' hb hC hx F8 N8
    have hv := hvE e he
    have mt := cons3 (a := (I', oI)) (b := (C, oC)) (c := (D, oD)) (hb _ (.tail _ (htE e he)))
    have mh := cons3 (a := (I', oI)) (b := (C, oC)) (c := (D, oD)) (hb _ (.tail _ hhd))
    have mo := cons3 (a := (I', oI)) (b := (C, oC)) (c := (D, oD)) (hb _ (.tail _ hho))
    clear N9 F9
    try dsimp only
    try k_fold
    k_steps
    (rename News _ _ _ _ => N7); (rename _ ∧ _ ∧ _ ∧ AllLt _ _ => l9)
    refine PairEnd.intro (by assumption) N7 ?_
    intro q hq
    rcases List.mem_cons.mp hq with rfl | hq
    · exact l9.1
    rcases List.mem_cons.mp hq with rfl | hq
    · exact l9.2.1
    rcases List.mem_cons.mp hq with rfl | hq
    · exact l9.2.2.1
    exact ktn_ltOf l9.2.2.2 q hq
  · intro D vs news' h tk hlen hall hb F8 N8
    have m9 := hb _ (.head _)
    clear N9 F9
    try dsimp only
    try k_fold
    k_steps
    refine dpl_N (ps := lst.ents.map dpr) rfl F8 N8 (Top.nolimit (by assumption)) (.head _) (by rw [List.length_map]; exact hlen) (by rw [List.length_map]; exact hz1) (by simpa [List.map_map, Function.comp_def] using I.P.hkeys) ?_ ?_
    · intro j v kv hv hkv
      rw [List.getElem?_map] at hkv
      obtain ⟨e, he, rfl⟩ := Option.map_eq_some_iff.mp hkv
      obtain ⟨t, e1, e2⟩ := hall j v e hv he
      exact ⟨t, e.kt, e1, .tail _ e2⟩
    · intro D7 o7 h7 tk7 F7 N7 lt7 lo7 ho7
      clear N8 F8
      try dsimp only
      try k_fold
      k_steps
      refine dicts_ne N7 (.tail _ (.tail _ m9)) (.head _) ho9 ho7 lo9 lo7 same.1 same.2 (by ke_room) ?_
      k_steps
      exact ChkEnd.intro (by assumption) (kst_newsOf N7 fun z hz => .tail _ (.tail _ (hb _ (.tail _ (ledLC z hz)))))
end
end
section
-- LChk6
open PySem PySem.W PySem.Calls PyProof.Rows
theorem rules_LChk60 : True := by
  k_with_none
  k_with "ne" => (refine neN ?_; (try dsimp only); first | assumption | (apply Ne.symm; assumption))
  k_with "tone" => (refine neN ?_; (try dsimp only); first | assumption | (apply Ne.symm; assumption))
  k_with "mem" => assumption
  k_with "subscriptTail" => (k_here; (with_reducible show wpAny _ _ (subscriptTail _ _ (Value.ref _) (Value.int _ _)) _ _ _); k_dflt (refine' kda_item (knd := PySem.intKind _ _) ?Nr ?mr ?dr (intKind_is _ _ _ _) ?vr ?_; (case Nr => k_asm); (case mr => k_mem); (case dr => assumption); (case vr => assumption)))
  k_with "getItem ref int" => (k_here; k_dflt (refine' gi_sym ?Nr ?mr ?dr ?vr ?_; (case Nr => k_asm); (case mr => k_mem); (case dr => assumption); (case vr => assumption); k_whole))
  k_with "call builtin:len" => (k_here; (with_reducible show wpAny _ _ (call (Value.builtin "len") [Value.ref _]) _ _ _); k_dflt (refine' kda_len (knd := PySem.intKind _ _) ?Nr ?mr ?dr ?lr ?zr ?_; (case Nr => k_asm); (case mr => k_mem); (case dr => assumption); (case lr => assumption); (case zr => first | assumption | lia); k_whole))
  k_with "compareOp In int ref" => (k_here; k_dflt (first
    | (refine' kda_in (knd := PySem.intKind _ _) ?Nr ?mr ?dr ?lr (intKind_is _ _ _ _) true ?br ?_; (case Nr => k_asm); (case mr => k_mem); (case dr => assumption); (case lr => assumption); (case br => exact Option.isSome_iff_exists.mpr ⟨_, by assumption⟩); k_whole)
    | (refine' kda_in (knd := PySem.intKind _ _) ?Nr ?mr ?dr ?lr (intKind_is _ _ _ _) false ?br ?_; (case Nr => k_asm); (case mr => k_mem); (case dr => assumption); (case lr => assumption); (case br => exact Option.isSome_eq_false_iff.mpr (Option.isNone_iff_eq_none.mpr (by assumption))); k_whole)))
  k_with "setItem ref int" => (k_here; k_dflt (refine' kda_set (knd := PySem.intKind _ _) ?Fr ?Nr ?Ur ?dr (intKind_is _ _ _ _) ?zr ?_; (case Fr => k_asm); (case Nr => k_asm); (case Ur => k_updF); (case dr => assumption); (case zr => assumption)); intro h'r o'r F'r N'r hd'r; (try dsimp only at N'r))
  k_with "getMethod ref" => (k_here; (with_reducible show wpAny _ _ (getMethod (Value.ref _) (Str.ofString "pop") _) _ _ _); k_dflt (refine' kob_method (knd := PySem.intKind _ _) PySem.F.slot_dict_pop PySem.F.type_dict_pop ?Nr ?mr ?dr ?_; (case Nr => k_asm); (case mr => k_mem); (case dr => assumption)))
  k_with "getMethod ref" => (k_here; (with_reducible show wpAny _ _ (getMethod (Value.ref _) (Str.ofString "get") _) _ _ _); k_dflt (refine' kdg_method (knd := PySem.intKind _ _) ?Nr ?mr ?dr ?_; (case Nr => k_asm); (case mr => k_mem); (case dr => assumption)))
  k_with "call builtin:dict.pop" => (k_here; (with_reducible show wpAny _ _ (call (Value.builtin "dict.pop") [Value.ref _, Value.int _ _]) _ _ _); k_dflt (refine' kob_pop (knd := PySem.intKind _ _) (more := []) ?Fr ?Nr ?Ur ?dr (intKind_is _ _ _ _) (.inl rfl) (by rfl) (PySem.F.args_dict_pop_2 _ _) ?lr ?zr ?_; (case Fr => k_asm); (case Nr => k_asm); (case Ur => k_updF); (case dr => assumption); (case lr => assumption); (case zr => assumption)); intro h'r o'r F'r N'r hd'r; (try dsimp only at N'r))
  k_with "call builtin:dict.get" => (k_here; (with_reducible show wpAny _ _ (call (Value.builtin "dict.get") [Value.ref _, Value.int _ _, _]) _ _ _); k_dflt (refine' kdg_get2 (knd := PySem.intKind _ _) ?Nr ?mr ?dr ?lr (intKind_is _ _ _ _) _ ?vr ?_; (case Nr => k_asm); (case mr => k_mem); (case dr => assumption); (case lr => assumption); (case vr => assumption)); (try dsimp only [Option.getD]))
  k_with "enter" => (refine' code_def ?k1r ?k2r ?k3r ?k4r ?k5r ?kAr ?kFr ?kKr ?k6r ?k7r ?k8r ?k9r ?kBr ?_ ?c2r ?c3r ?c4r ?c5r; (case kAr => exact rfl); (case kFr => exact rfl); (case kKr => first | exact rfl | assumption); (case k1r => k_asm); (case k2r => k_asm); (case k3r => k_asm); (case k4r => k_asm); (case k5r => k_asm); (case k6r => k_is); (case k7r => k_is); (case k8r => ktr_room); (case k9r => first | exact BindsTo.of_eq rfl | exact binds_K (by k_in) rfl (by k_is) rfl rfl rfl); (case c5r => decide); (case kBr => exact locs rfl); (case c2r => exact rfl); (case c3r => exact rfl); (case c4r => exact rfl); k_whole; intro g'r L'r h'r FG'r F'r N'r B'r X'r T'r; (try dsimp only); (try k_fold))
  k_with "callWith ref" => (k_here; k_dflt (refine' callWith_F ?k1r ?_; (case k1r => exact FnAt.of (by k_asm) (by k_mem)); k_whole))
  trivial
theorem Inv.keysPerm {w : World} {x : LawFix} {cst : CSt} {lst : LSt} {R : List (Addr × Obj)} {i : Nat} (I : Inv w x cst lst R i) : (cst.kvs.map (·.1)).Perm (lst.ents.map LEnt.k) := by
  have h := I.G.hkv.map (·.1)
  rw [List.map_map] at h
  have e : cst.line.map ((·.1) ∘ pr) = lst.ents.map LEnt.k := by rw [← keysE, ← I.vl, keysL]; rfl
  rw [e] at h
  exact h
section
variable {prog : Program} {w : World} {A : Around} {E : Value → Shared → Prop} {s : Shared} {h₀ : Heap} {L a b : Addr} {m : Str → Option Value} {news : List (Addr × Obj)} {Q : Value → Shared → Prop}
theorem lvals_ints : ∀ l : List LEnt, IntsAre (lvals l) (l.map LEnt.k)
  | [] => .nil
  | e :: r => .cons _ _ (lvals_ints r)
theorem lsort_N {l : Addr} {us : List Value} {ks : List Int} {n : Nat} (F : Fr h₀ L s.heap m) (N : News h₀ L s.heap news) (hl : (l, listOf us.toArray n) ∈ news) (hi : IntsAre us ks) (hn : ks.length < 64)
    (h : ∀ D vs ns c h' tk, Fr h₀ L h' m → News h₀ L h' ((D, listOf vs.toArray c) :: news) → (∀ q ∈ news, q.1 < D) → IntsAre vs ns → ns.Perm ks → ns.Pairwise (· ≤ ·) → Q (.ref D) { s with heap := h', toks := tk }) :
    wpAny (model prog w) A (call (.builtin "sorted") [.ref l]) Q E s :=
  kso_sorted F N ⟨_, (N _ hl).1, rfl, n, rfl⟩ hi hn fun D vs ns c h' F' N' lt i _ p o _ => h D vs ns c h' s.toks F' N' lt i p o
theorem srt_ne {xs ys : List Value} {ns ms : List Int} {c e : Nat} (N : News h₀ L s.heap news) (ha : (a, listOf xs.toArray c) ∈ news) (hb : (b, listOf ys.toArray e) ∈ news) (hi : IntsAre xs ns) (hj : IntsAre ys ms) (he : ns = ms) (hu : A.units + 64 < cLine) (h : Q (.bool false) s) :
    wpAny (model prog w) A (compareOp .NotEq (.ref a) (.ref b)) Q E s :=
  ke_ne_ints ⟨_, (N _ ha).1, rfl, c, rfl⟩ ⟨_, (N _ hb).1, rfl, e, rfl⟩ hi hj hu (by rw [he]; simpa using h)
end
section
variable {w : World} {p : Program} {loose : List Str} {mean : ExcName → Option Value} {mg mb : Str → Option Value} {g : Heap} {x : LawFix} {fa : Addr} {s : Shared} {Q : Flow → Shared → Prop} {E : Value → Shared → Prop} {cst : CSt} {lst : LSt} {R : List (Addr × Obj)} {i : Nat} {m : Str → Option Value} {zt yt t1 t2 t3 t4 : Tok} {q key fresh : Int}
  (B : Below callerA g [] g) (X : (hd.heap_39 w.params).In g) (T : Top p loose mean mg mb g)
  (hG : GoneSpec w p loose mean mg mb x.c.ga x.c.ol x.c.S₀) (hU : UseSpec w p loose mean mg mb x.ua x.lc x.Su) (hD : DropSpec w p loose mean mg mb x.da x.lc x.Sd)
include B X T hG hU hD
theorem rules_LChk61 : True := by
  k_with "mem" => exact List.mem_append_right _ (by assumption)
  k_with "call ref" => (k_here; (with_reducible show wpAny _ _ (call (Value.ref 79) _ _) _ _ _); (rename Inv _ _ _ _ _ _ => I9r); (rename News _ _ _ _ => N9r); k_dflt (refine' ln_ok ?g1r ?g2r ?g3r ?g4r rfl ?g6r (kst_newsOf N9r ledLC) (Inv.G I9r) ?_; (case g1r => k_asm); (case g2r => k_asm); (case g3r => k_asm); (case g4r => k_asm); (case g6r => ktr_room)); intro t9r h9r tk9r F9r N8r; (have N7r := kst_newsOf N8r ledCL); clear N9r N8r; (dsimp only [PySem.W.LenBack]); (refine ⟨⟨by lia, by lia⟩, ?_⟩); (try dsimp only); (try k_fold))
  k_with "call ref" => (k_here; (with_reducible show wpAny _ _ (call (Value.ref 109) _ _) _ _ _); (rename Inv _ _ _ _ _ _ => I9r); (rename News _ _ _ _ => N9r); k_dflt (refine' ks_ok ?g1r ?g2r ?g3r ?g4r rfl ?g6r (kst_newsOf N9r ledLC) (Inv.G I9r) ?_; (case g1r => k_asm); (case g2r => k_asm); (case g3r => k_asm); (case g4r => k_asm); (case g6r => ktr_room)); intro v9r h9r tk9r F9r N8r; (have N7r := kst_newsOf N8r (consM ledCL)); clear N9r N8r; (try dsimp only); (try k_fold))
  k_with "call ref" => (k_here; (with_reducible show wpAny _ _ (call (Value.ref 94) _ _) _ _ _); (rename Inv _ _ _ _ _ _ => I9r); (rename News _ _ _ _ => N9r); k_dflt (refine' cs_ok ?g1r ?g2r ?g3r ?g4r rfl ?g6r (kst_newsOf N9r (fun z hz => .tail _ (.tail _ (.tail _ (ledLC z hz))))) (Inv.G I9r) ?_; (case g1r => k_asm); (case g2r => k_asm); (case g3r => k_asm); (case g4r => k_asm); (case g6r => ktr_room)); intro h9r tk9r F9r N8r; (have N7r := kst_newsOf N8r ledCL); clear N9r N8r; (try dsimp only); (try k_fold))
  k_with "call builtin:len" => (k_here; (with_reducible show wpAny _ _ (call (Value.builtin "len") [Value.ref _]) _ _ _); k_dflt (refine' kst_len ?k1r ?k2r ?k3r ?k4r ?_; (case k1r => k_asm); (case k2r => k_mem); (case k3r => assumption); (case k4r => lia)); k_whole)
  k_with "call builtin:sorted" => (k_here; (with_reducible show wpAny _ _ (call (Value.builtin "sorted") [Value.ref _]) _ _ _); (rename News _ _ _ _ => N9r); (rename Fr _ _ _ _ => F9r); k_dflt (first | (refine' skeys_N rfl F9r N9r ?m1r ?m2r ?m3r ?m4r ?_; (case m1r => exact .head _); (case m2r => k_mem); (case m3r => assumption); (case m4r => lia)) | (refine' lsort_N F9r N9r ?m1r ?m2r ?m3r ?_; (case m1r => k_mem); (case m2r => assumption); (case m3r => lia)));  intro D8r vs8r ns8r c8r h8r tk8r F8r N8r l8r i8r p8r o8r; clear N9r; (try dsimp only); (try k_fold))
  k_with "compareOp NotEq ref ref" => (k_here; (rename News _ _ _ _ => N9r); k_dflt (refine srt_ne N9r (by k_mem) (by k_mem) (by assumption) (by assumption) ?_ (by ke_room) ?_))
  trivial
set_option maxRecDepth 100000 in
set_option maxHeartbeats 1000000 in
theorem chk6 (hi : i ≤ 64) {tkk : Tok} (F : Fr g x.L s.heap (chkMap x cst.size cst.stay zt yt key tkk m)) (N : News g x.L s.heap (LedC x cst lst R)) (I : Inv w x cst lst R i) :
  wpAny (model PySem.Challenge.rw_iy0004_01.row.prog w) (callerA.deeper (envOfC (Str.ofString "law") lawScope x.L fa (.ref 183))) (exec (chk 6) (envOfC (Str.ofString "law") lawScope x.L fa (.ref 183))) (ChkEnd x g s (chkMap x cst.size cst.stay zt yt key tkk m) (LedC x cst lst R)) E s := by
  revert X; k_fill; intro X
  have es : lawScope = Scope.mk _ _ _ _ _ := rfl
  have eb : chk 6 = Stmt.If _ _ _ _ := rfl
  rw [es, eb]
  clear es eb
  have mline := I.S.mline
  have mheld := I.S.mheld
  have vline := I.S.vline
  have vheld := I.S.vheld
  have hca := I.ca
  have hsz := I.sizes hi
  have hll : (lvals lst.ents).length = lst.ents.length := by simp [lvals]
  have hz1 : (lvals lst.ents).length ≤ sizeLine := by rw [hll, sizeLine_eq]; lia
  have hoc := I.G.hoc
  have hkl := I.G.len
  have hzz := I.hz
  have hlz := I.hl
  have hll2 : (lst.ents.map LEnt.k).length = lst.ents.length := List.length_map _
  have hI : IntsAre (lvals lst.ents) (lst.ents.map LEnt.k) := lvals_ints lst.ents
  have hkp := I.keysPerm
  have N1 := kst_newsOf N ledCL
  clear N
  k_steps
  · exfalso; lia
  · (rename List.Perm _ (List.map LEnt.k _) => p2); (rename List.Perm _ (List.map _ cst.kvs) => p1)
    exact ksm_same (p1.trans (hkp.trans p2.symm)) (by assumption) (by assumption)
  · exfalso; lia
  · exact ChkEnd.intro (by assumption) (kst_newsOf (by assumption) ledLC)
end
end
section
-- LChk7
open PySem PySem.W PySem.Calls PyProof.Rows
theorem rules_LChk70 : True := by
  k_with_none
  k_with "ne" => (refine neN ?_; (try dsimp only); first | assumption | (apply Ne.symm; assumption))
  k_with "tone" => (refine neN ?_; (try dsimp only); first | assumption | (apply Ne.symm; assumption))
  k_with "mem" => assumption
  k_with "subscriptTail" => (k_here; (with_reducible show wpAny _ _ (subscriptTail _ _ (Value.ref _) (Value.int _ _)) _ _ _); k_dflt (refine' kda_item (knd := PySem.intKind _ _) ?Nr ?mr ?dr (intKind_is _ _ _ _) ?vr ?_; (case Nr => k_asm); (case mr => k_mem); (case dr => assumption); (case vr => assumption)))
  k_with "getItem ref int" => (k_here; k_dflt (refine' gi_sym ?Nr ?mr ?dr ?vr ?_; (case Nr => k_asm); (case mr => k_mem); (case dr => assumption); (case vr => assumption); k_whole))
  k_with "call builtin:len" => (k_here; (with_reducible show wpAny _ _ (call (Value.builtin "len") [Value.ref _]) _ _ _); k_dflt (refine' kda_len (knd := PySem.intKind _ _) ?Nr ?mr ?dr ?lr ?zr ?_; (case Nr => k_asm); (case mr => k_mem); (case dr => assumption); (case lr => assumption); (case zr => first | assumption | omega); k_whole))
  k_with "compareOp In int ref" => (k_here; k_dflt (first
    | (refine' kda_in (knd := PySem.intKind _ _) ?Nr ?mr ?dr ?lr (intKind_is _ _ _ _) true ?br ?_; (case Nr => k_asm); (case mr => k_mem); (case dr => assumption); (case lr => assumption); (case br => exact Option.isSome_iff_exists.mpr ⟨_, by assumption⟩); k_whole)
    | (refine' kda_in (knd := PySem.intKind _ _) ?Nr ?mr ?dr ?lr (intKind_is _ _ _ _) false ?br ?_; (case Nr => k_asm); (case mr => k_mem); (case dr => assumption); (case lr => assumption); (case br => exact Option.isSome_eq_false_iff.mpr (Option.isNone_iff_eq_none.mpr (by assumption))); k_whole)))
  k_with "setItem ref int" => (k_here; k_dflt (refine' kda_set (knd := PySem.intKind _ _) ?Fr ?Nr ?Ur ?dr (intKind_is _ _ _ _) ?zr ?_; (case Fr => k_asm); (case Nr => k_asm); (case Ur => k_updF); (case dr => assumption); (case zr => assumption)); intro h'r o'r F'r N'r hd'r; (try dsimp only at N'r))
  k_with "getMethod ref" => (k_here; (with_reducible show wpAny _ _ (getMethod (Value.ref _) (Str.ofString "pop") _) _ _ _); k_dflt (refine' kob_method (knd := PySem.intKind _ _) PySem.F.slot_dict_pop PySem.F.type_dict_pop ?Nr ?mr ?dr ?_; (case Nr => k_asm); (case mr => k_mem); (case dr => assumption)))
  k_with "getMethod ref" => (k_here; (with_reducible show wpAny _ _ (getMethod (Value.ref _) (Str.ofString "get") _) _ _ _); k_dflt (refine' kdg_method (knd := PySem.intKind _ _) ?Nr ?mr ?dr ?_; (case Nr => k_asm); (case mr => k_mem); (case dr => assumption)))
  k_with "call builtin:dict.pop" => (k_here; (with_reducible show wpAny _ _ (call (Value.builtin "dict.pop") [Value.ref _, Value.int _ _]) _ _ _); k_dflt (refine' kob_pop (knd := PySem.intKind _ _) (more := []) ?Fr ?Nr ?Ur ?dr (intKind_is _ _ _ _) (.inl rfl) (by rfl) (PySem.F.args_dict_pop_2 _ _) ?lr ?zr ?_; (case Fr => k_asm); (case Nr => k_asm); (case Ur => k_updF); (case dr => assumption); (case lr => assumption); (case zr => assumption)); intro h'r o'r F'r N'r hd'r; (try dsimp only at N'r))
  k_with "call builtin:dict.get" => (k_here; (with_reducible show wpAny _ _ (call (Value.builtin "dict.get") [Value.ref _, Value.int _ _, _]) _ _ _); k_dflt (refine' kdg_get2 (knd := PySem.intKind _ _) ?Nr ?mr ?dr ?lr (intKind_is _ _ _ _) _ ?vr ?_; (case Nr => k_asm); (case mr => k_mem); (case dr => assumption); (case lr => assumption); (case vr => assumption)); (try dsimp only [Option.getD]))
  k_with "enter" => (refine' code_def ?k1r ?k2r ?k3r ?k4r ?k5r ?kAr ?kFr ?kKr ?k6r ?k7r ?k8r ?k9r ?kBr ?_ ?c2r ?c3r ?c4r ?c5r; (case kAr => exact rfl); (case kFr => exact rfl); (case kKr => first | exact rfl | assumption); (case k1r => k_asm); (case k2r => k_asm); (case k3r => k_asm); (case k4r => k_asm); (case k5r => k_asm); (case k6r => k_is); (case k7r => k_is); (case k8r => ktr_room); (case k9r => first | exact BindsTo.of_eq rfl | exact binds_K (by k_in) rfl (by k_is) rfl rfl rfl); (case c5r => decide); (case kBr => exact locs rfl); (case c2r => exact rfl); (case c3r => exact rfl); (case c4r => exact rfl); k_whole; intro g'r L'r h'r FG'r F'r N'r B'r X'r T'r; (try dsimp only); (try k_fold))
  k_with "callWith ref" => (k_here; k_dflt (refine' callWith_F ?k1r ?_; (case k1r => exact FnAt.of (by k_asm) (by k_mem)); k_whole))
  trivial
section
variable {w : World} {p : Program} {loose : List Str} {mean : ExcName → Option Value} {mg mb : Str → Option Value} {g : Heap} {x : LawFix} {fa : Addr} {s : Shared} {Q : Flow → Shared → Prop} {E : Value → Shared → Prop} {cst : CSt} {lst : LSt} {R : List (Addr × Obj)} {i : Nat} {m : Str → Option Value} {zt yt t1 t2 t3 t4 : Tok} {q key fresh : Int}
  (B : Below callerA g [] g) (X : (hd.heap_39 w.params).In g) (T : Top p loose mean mg mb g)
  (hG : GoneSpec w p loose mean mg mb x.c.ga x.c.ol x.c.S₀) (hU : UseSpec w p loose mean mg mb x.ua x.lc x.Su) (hD : DropSpec w p loose mean mg mb x.da x.lc x.Sd)
include B X T hG hU hD
theorem rules_LChk71 : True := by
  k_with "mem" => exact List.mem_append_right _ (by assumption)
  k_with "call ref" => (k_here; (with_reducible show wpAny _ _ (call (Value.ref 65) _ _) _ _ _); (rename Inv _ _ _ _ _ _ => I9r); (rename News _ _ _ _ => N9r); k_dflt (refine' ct_out ?g1r ?g2r ?g3r ?g4r rfl ?g6r (kst_newsOf N9r ledLC) (Inv.G I9r) ?g7r ?_; (case g1r => k_asm); (case g2r => k_asm); (case g3r => k_asm); (case g4r => k_asm); (case g6r => ktr_room); (case g7r => assumption)); intro h9r tk9r F9r N8r; (have N7r := kst_newsOf N8r ledCL); clear N9r N8r; (try dsimp only [PySem.W.BoolBack]); (try dsimp only); (try k_fold))
  trivial
set_option maxRecDepth 100000 in
set_option maxHeartbeats 400000 in
theorem chk7_out {tkk : Tok} (F : Fr g x.L s.heap (chkMap x cst.size cst.stay zt yt key tkk m)) (N : News g x.L s.heap (LedC x cst lst R)) (I : Inv w x cst lst R i) (hkey : key ∉ cst.line.map Node.k) :
  wpAny (model PySem.Challenge.rw_iy0004_01.row.prog w) (callerA.deeper (envOfC (Str.ofString "law") lawScope x.L fa (.ref 183))) (exec (chk 7) (envOfC (Str.ofString "law") lawScope x.L fa (.ref 183))) (ChkEnd x g s (chkMap x cst.size cst.stay zt yt key tkk m) (LedC x cst lst R)) E s := by
  revert X; k_fill; intro X
  have es : lawScope = Scope.mk _ _ _ _ _ := rfl
  have eb : chk 7 = Stmt.If _ _ _ _ := rfl
  rw [es, eb]
  clear es eb
  have mheld := I.S.mheld
  have vheld := I.S.vheld
  have hca := I.ca
  have hoh := I.P.hoh
  have hha := I.P.hha
  have hv := lvalueAt_none I.P.hkv (I.neither hkey)
  have N1 := kst_newsOf N ledCL
  clear N
  k_steps
  exact ChkEnd.intro (by assumption) (kst_newsOf (by assumption) ledLC)
theorem rules_LChk72 : True := by
  k_with "call ref" => (k_here; (with_reducible show wpAny _ _ (call (Value.ref 65) _ _) _ _ _); (rename Inv _ _ _ _ _ _ => I9r); (rename News _ _ _ _ => N9r); k_dflt (refine' ct_in ?g1r ?g2r ?g3r ?g4r rfl ?g6r (kst_newsOf N9r ledLC) (Inv.G I9r) ?g7r ?_; (case g1r => k_asm); (case g2r => k_asm); (case g3r => k_asm); (case g4r => k_asm); (case g6r => ktr_room); (case g7r => assumption)); intro h9r tk9r F9r N8r; (have N7r := kst_newsOf N8r ledCL); clear N9r N8r; (try dsimp only [PySem.W.BoolBack]); (try dsimp only); (try k_fold))
  trivial
set_option maxRecDepth 100000 in
set_option maxHeartbeats 400000 in
theorem chk7_in {tkk : Tok} (F : Fr g x.L s.heap (chkMap x cst.size cst.stay zt yt key tkk m)) (N : News g x.L s.heap (LedC x cst lst R)) (I : Inv w x cst lst R i) (hkey : key ∈ cst.line.map Node.k) :
  wpAny (model PySem.Challenge.rw_iy0004_01.row.prog w) (callerA.deeper (envOfC (Str.ofString "law") lawScope x.L fa (.ref 183))) (exec (chk 7) (envOfC (Str.ofString "law") lawScope x.L fa (.ref 183))) (ChkEnd x g s (chkMap x cst.size cst.stay zt yt key tkk m) (LedC x cst lst R)) E s := by
  revert X; k_fill; intro X
  have es : lawScope = Scope.mk _ _ _ _ _ := rfl
  have eb : chk 7 = Stmt.If _ _ _ _ := rfl
  rw [es, eb]
  clear es eb
  have mheld := I.S.mheld
  have vheld := I.S.vheld
  have hca := I.ca
  have hoh := I.P.hoh
  have hha := I.P.hha
  obtain ⟨pre, n, post, pre', kt, vt, t, post', rfl, h1, h3, h4, h5⟩ := I.both hkey
  have hv : valueAt lst.hkvs n.k = some (Value.ref t) := I.P.val (e := ⟨n.k, kt, n.v, vt, n.f, t⟩) (by rw [h3]; simp)
  have N1 := kst_newsOf N ledCL
  clear N
  k_steps
  exact ChkEnd.intro (by assumption) (kst_newsOf (by assumption) ledLC)
end
end
section
-- LTurn
open PySem PySem.W PySem.Calls PyProof.Rows
theorem rules_LTurn0 : True := by
  k_with_none
  k_with "ne" => (refine neN ?_; (try dsimp only); first | assumption | (apply Ne.symm; assumption))
  k_with "tone" => (refine neN ?_; (try dsimp only); first | assumption | (apply Ne.symm; assumption))
  k_with "mem" => assumption
  k_with "subscriptTail" => (k_here; (with_reducible show wpAny _ _ (subscriptTail _ _ (Value.ref _) (Value.int _ _)) _ _ _); k_dflt (refine' kda_item (knd := PySem.intKind _ _) ?Nr ?mr ?dr (intKind_is _ _ _ _) ?vr ?_; (case Nr => k_asm); (case mr => k_mem); (case dr => assumption); (case vr => assumption)))
  k_with "getItem ref int" => (k_here; k_dflt (refine' gi_sym ?Nr ?mr ?dr ?vr ?_; (case Nr => k_asm); (case mr => k_mem); (case dr => assumption); (case vr => assumption); k_whole))
  k_with "call builtin:len" => (k_here; (with_reducible show wpAny _ _ (call (Value.builtin "len") [Value.ref _]) _ _ _); k_dflt (refine' kda_len (knd := PySem.intKind _ _) ?Nr ?mr ?dr ?lr ?zr ?_; (case Nr => k_asm); (case mr => k_mem); (case dr => assumption); (case lr => assumption); (case zr => first | assumption | lia); k_whole))
  k_with "compareOp In int ref" => (k_here; k_dflt (first
    | (refine' kda_in (knd := PySem.intKind _ _) ?Nr ?mr ?dr ?lr (intKind_is _ _ _ _) true ?br ?_; (case Nr => k_asm); (case mr => k_mem); (case dr => assumption); (case lr => assumption); (case br => exact Option.isSome_iff_exists.mpr ⟨_, by assumption⟩); k_whole)
    | (refine' kda_in (knd := PySem.intKind _ _) ?Nr ?mr ?dr ?lr (intKind_is _ _ _ _) false ?br ?_; (case Nr => k_asm); (case mr => k_mem); (case dr => assumption); (case lr => assumption); (case br => exact Option.isSome_eq_false_iff.mpr (Option.isNone_iff_eq_none.mpr (by assumption))); k_whole)))
  k_with "setItem ref int" => (k_here; k_dflt (refine' kda_set (knd := PySem.intKind _ _) ?Fr ?Nr ?Ur ?dr (intKind_is _ _ _ _) ?zr ?_; (case Fr => k_asm); (case Nr => k_asm); (case Ur => k_updF); (case dr => assumption); (case zr => assumption)); intro h'r o'r F'r N'r hd'r; (try dsimp only at N'r))
  k_with "getMethod ref" => (k_here; (with_reducible show wpAny _ _ (getMethod (Value.ref _) (Str.ofString "pop") _) _ _ _); k_dflt (refine' kob_method (knd := PySem.intKind _ _) PySem.F.slot_dict_pop PySem.F.type_dict_pop ?Nr ?mr ?dr ?_; (case Nr => k_asm); (case mr => k_mem); (case dr => assumption)))
  k_with "getMethod ref" => (k_here; (with_reducible show wpAny _ _ (getMethod (Value.ref _) (Str.ofString "get") _) _ _ _); k_dflt (refine' kdg_method (knd := PySem.intKind _ _) ?Nr ?mr ?dr ?_; (case Nr => k_asm); (case mr => k_mem); (case dr => assumption)))
  k_with "call builtin:dict.pop" => (k_here; (with_reducible show wpAny _ _ (call (Value.builtin "dict.pop") [Value.ref _, Value.int _ _]) _ _ _); k_dflt (refine' kob_pop (knd := PySem.intKind _ _) (more := []) ?Fr ?Nr ?Ur ?dr (intKind_is _ _ _ _) (.inl rfl) (by rfl) (PySem.F.args_dict_pop_2 _ _) ?lr ?zr ?_; (case Fr => k_asm); (case Nr => k_asm); (case Ur => k_updF); (case dr => assumption); (case lr => assumption); (case zr => assumption)); intro h'r o'r F'r N'r hd'r; (try dsimp only at N'r))
  k_with "call builtin:dict.get" => (k_here; (with_reducible show wpAny _ _ (call (Value.builtin "dict.get") [Value.ref _, Value.int _ _, _]) _ _ _); k_dflt (refine' kdg_get2 (knd := PySem.intKind _ _) ?Nr ?mr ?dr ?lr (intKind_is _ _ _ _) _ ?vr ?_; (case Nr => k_asm); (case mr => k_mem); (case dr => assumption); (case lr => assumption); (case vr => assumption)); (try dsimp only [Option.getD]))
  k_with "enter" => (refine' code_def ?k1r ?k2r ?k3r ?k4r ?k5r ?kAr ?kFr ?kKr ?k6r ?k7r ?k8r ?k9r ?kBr ?_ ?c2r ?c3r ?c4r ?c5r; (case kAr => exact rfl); (case kFr => exact rfl); (case kKr => first | exact rfl | assumption); (case k1r => k_asm); (case k2r => k_asm); (case k3r => k_asm); (case k4r => k_asm); (case k5r => k_asm); (case k6r => k_is); (case k7r => k_is); (case k8r => ktr_room); (case k9r => first | exact BindsTo.of_eq rfl | exact binds_K (by k_in) rfl (by k_is) rfl rfl rfl); (case c5r => decide); (case kBr => exact locs rfl); (case c2r => exact rfl); (case c3r => exact rfl); (case c4r => exact rfl); k_whole; intro g'r L'r h'r FG'r F'r N'r B'r X'r T'r; (try dsimp only); (try k_fold))
  k_with "callWith ref" => (k_here; k_dflt (refine' callWith_F ?k1r ?_; (case k1r => exact FnAt.of (by k_asm) (by k_mem)); k_whole))
  trivial
theorem forBody_eq : forBody = [chk 0, chk 1, chk 2, chk 3, deedIf, chk 5, chk 6, chk 7] := rfl
theorem chkMap_of {x : LawFix} {cst : CSt} {m : Str → Option Value} {key : Int} {tkk : Tok} (H : HasLaw x cst m) (hk : m (Str.ofString "key") = some (.int key tkk)) : ∃ zt yt, m = chkMap x cst.size cst.stay zt yt key tkk m := by
  obtain ⟨zt, yt, e⟩ := lawMap_of H
  refine ⟨zt, yt, ?_⟩
  funext y
  unfold chkMap
  split
  · rename_i e2; rw [e2, hk]
  · exact congrFun e y
theorem HasLaw.chk {x : LawFix} {cst : CSt} {zt yt : Tok} {key : Int} {tkk : Tok} {m : Str → Option Value} : HasLaw x cst (chkMap x cst.size cst.stay zt yt key tkk m) := ⟨rfl, ⟨_, rfl⟩, ⟨_, rfl⟩, rfl, rfl, rfl⟩
theorem HasLaw.keep {x : LawFix} {cst : CSt} {m : Str → Option Value} {v : Option Value} (H : HasLaw x cst m) : HasLaw x cst (fun y => if y = Str.ofString "n" then v else m y) := ⟨H.cache, H.size, H.stay, H.gone, H.drop, H.use⟩
theorem DeedEnd.mono {w : World} {x : LawFix} {g : Heap} {s s₁ : Shared} {R : List (Addr × Obj)} {i : Nat} {key : Int} {f : Flow} {s' : Shared} {h : Heap} {tk : Nat} (D : DeedEnd w x g s₁ R i key f s') (e : s₁ = { s with heap := h, toks := tk }) : DeedEnd w x g s R i key f s' := by
  obtain ⟨rfl, h', tk', m', cst', lst', R', tkk, rfl, r⟩ := D
  subst e
  exact ⟨rfl, h', tk', m', cst', lst', R', tkk, rfl, r⟩
section
variable {w : World} {p : Program} {loose : List Str} {mean : ExcName → Option Value} {mg mb : Str → Option Value} {g : Heap} {x : LawFix} {fa : Addr} {s : Shared} {Q : Flow → Shared → Prop} {E : Value → Shared → Prop} {cst : CSt} {lst : LSt} {R : List (Addr × Obj)} {i : Nat} {m : Str → Option Value} {zt yt t1 t2 t3 t4 : Tok} {q key fresh : Int}
  (B : Below callerA g [] g) (X : (hd.heap_39 w.params).In g) (T : Top p loose mean mg mb g)
  (hG : GoneSpec w p loose mean mg mb x.c.ga x.c.ol x.c.S₀) (hU : UseSpec w p loose mean mg mb x.ua x.lc x.Su) (hD : DropSpec w p loose mean mg mb x.da x.lc x.Sd)
include B X T hG hU hD
set_option maxRecDepth 100000 in
set_option maxHeartbeats 400000 in
theorem turn_head {n : Int} {t : Tok} {rest : List Stmt} {Q : Flow → Shared → Prop} (F : Fr g x.L s.heap (fun y => if y = Str.ofString "n" then some (.int n t) else m y)) (N : News g x.L s.heap (LedC x cst lst R))
  (ret : ∀ (h' : Heap) (tk : Nat) (t1 t2 t3 t4 : Tok), Fr g x.L h' (fun y => if y = Str.ofString "fresh" then some (.int (((n.fdiv 9).fdiv 7).fmod 100) t4) else if y = Str.ofString "key" then some (.int ((n.fdiv 9).fmod 7) t3) else if y = Str.ofString "q" then some (.int (n.fdiv 9) t2) else if y = Str.ofString "kind" then some (.int (n.fmod 9) t1) else if y = Str.ofString "n" then some (.int n t) else m y) → News g x.L h' (LedC x cst lst R) →
    wpAny (model PySem.Challenge.rw_iy0004_01.row.prog w) (callerA.deeper (envOfC (Str.ofString "law") lawScope x.L fa (.ref 183))) (execs rest (envOfC (Str.ofString "law") lawScope x.L fa (.ref 183))) Q E { s with heap := h', toks := tk }) :
  wpAny (model PySem.Challenge.rw_iy0004_01.row.prog w) (callerA.deeper (envOfC (Str.ofString "law") lawScope x.L fa (.ref 183))) (execs (chk 0 :: chk 1 :: chk 2 :: chk 3 :: rest) (envOfC (Str.ofString "law") lawScope x.L fa (.ref 183))) Q E s := by
  revert X; k_fill; intro X
  have es : lawScope = Scope.mk _ _ _ _ _ := rfl
  have e0 : chk 0 = Stmt.Assign _ _ _ := rfl
  have e1 : chk 1 = Stmt.Assign _ _ _ := rfl
  have e2 : chk 2 = Stmt.Assign _ _ _ := rfl
  have e3 : chk 3 = Stmt.Assign _ _ _ := rfl
  rw [es] at ret
  rw [es, e0, e1, e2, e3]
  clear es e0 e1 e2 e3
  k_steps
  exact ret _ _ _ _ _ _ (by assumption) (by assumption)
theorem checks {tkk : Tok} (hi : i ≤ 64) (F : Fr g x.L s.heap (chkMap x cst.size cst.stay zt yt key tkk m)) (N : News g x.L s.heap (LedC x cst lst R)) (I : Inv w x cst lst R i) :
  wpAny (model PySem.Challenge.rw_iy0004_01.row.prog w) (callerA.deeper (envOfC (Str.ofString "law") lawScope x.L fa (.ref 183))) (execs [chk 5, chk 6, chk 7] (envOfC (Str.ofString "law") lawScope x.L fa (.ref 183))) (ChkEnd x g s (chkMap x cst.size cst.stay zt yt key tkk m) (LedC x cst lst R)) E s := by
  refine wpAny_execs_cons (wpAny_mono (chk5 B X T hG hU hD hi F N I) (fun f s' h => ?_) fun _ _ e => e)
  obtain ⟨rfl, h5, tk5, rfl, F5, N5⟩ := h
  refine wpAny_execs_cons (wpAny_mono (chk6 B X T hG hU hD hi F5 N5 I) (fun f s' h => ?_) fun _ _ e => e)
  obtain ⟨rfl, h6, tk6, rfl, F6, N6⟩ := h
  refine wpAny_execs_cons ?_
  have fin : ∀ f s', ChkEnd x g { s with heap := h6, toks := tk6 } (chkMap x cst.size cst.stay zt yt key tkk m) (LedC x cst lst R) f s' → (match f with | .next => wpAny (model PySem.Challenge.rw_iy0004_01.row.prog w) (callerA.deeper (envOfC (Str.ofString "law") lawScope x.L fa (.ref 183))) (execs [] (envOfC (Str.ofString "law") lawScope x.L fa (.ref 183))) (ChkEnd x g s (chkMap x cst.size cst.stay zt yt key tkk m) (LedC x cst lst R)) E s' | f => ChkEnd x g s (chkMap x cst.size cst.stay zt yt key tkk m) (LedC x cst lst R) f s') := by
    rintro f s' ⟨rfl, h7, tk7, rfl, F7, N7⟩
    exact wpAny_execs_nil ⟨rfl, h7, tk7, rfl, F7, N7⟩
  by_cases hkey : key ∈ cst.line.map Node.k
  · exact wpAny_mono (chk7_in B X T hG hU hD F6 N6 I hkey) fin fun _ _ e => e
  · exact wpAny_mono (chk7_out B X T hG hU hD F6 N6 I hkey) fin fun _ _ e => e
theorem deeds {kind : Int} (hE : ∀ e : Addr, PassesOwnAt (model PySem.Challenge.rw_iy0004_01.row.prog w) ((callerA.deeper (envOfC (Str.ofString "law") lawScope x.L fa (.ref 183))).mark (some (.ref e))) (callerA.deeper (envOfC (Str.ofString "law") lawScope x.L fa (.ref 183))) (envOfC (Str.ofString "law") lawScope x.L fa (.ref 183)) E)
  (hi : i ≤ 64) (hk : 0 ≤ kind ∧ kind < 9) (h07 : 0 ≤ key ∧ key < 7) (F : Fr g x.L s.heap (deedMap x cst.size cst.stay zt yt kind q key fresh t1 t2 t3 t4 m)) (N : News g x.L s.heap (LedC x cst lst R)) (I : Inv w x cst lst R i) :
  wpAny (model PySem.Challenge.rw_iy0004_01.row.prog w) (callerA.deeper (envOfC (Str.ofString "law") lawScope x.L fa (.ref 183))) (exec deedIf (envOfC (Str.ofString "law") lawScope x.L fa (.ref 183))) (DeedEnd w x g s R (i + 1) key) E s := by
  have hc : kind = 0 ∨ kind = 1 ∨ kind = 2 ∨ kind = 3 ∨ kind = 4 ∨ kind = 5 ∨ kind = 6 ∨ kind = 7 ∨ kind = 8 := by lia
  rcases hc with rfl | rfl | rfl | rfl | rfl | rfl | rfl | rfl | rfl
  · by_cases hkey : key ∈ cst.line.map Node.k
    · exact deed0_in B X T hG hU hD hi F N I hkey h07
    · exact deed0_out B X T hG hU hD hi F N I hkey h07
  · by_cases hkey : key ∈ cst.line.map Node.k
    · exact deed1_in B X T hG hU hD hi F N I hkey h07
    · exact deed1_out B X T hG hU hD hi F N I hkey h07
  · by_cases hkey : key ∈ cst.line.map Node.k
    · exact deed2_in B X T hG hU hD hi F N I hkey h07
    · exact deed2_out B X T hG hU hD hi F N I hkey h07
  · by_cases hkey : key ∈ cst.line.map Node.k
    · exact deed3_in B X T hG hU hD hi F N I hkey
    · exact deed3_out B X T hG hU hD hi F N I hkey
  · by_cases hkey : key ∈ cst.line.map Node.k
    · exact deed4_in B X T hG hU hD hi F N I hkey
    · exact deed4_out B X T hG hU hD hE hi F N I hkey
  · exact deed5 B X T hG hU hD hi F N I
  · exact deed6 B X T hG hU hD hi F N I
  · exact deed7 B X T hG hU hD hi F N I
  · exact deed8 B X T hG hU hD F N I
/-- behind a turn -/
noncomputable def TurnEnd (w : World) (x : LawFix) (g : Heap) (s : Shared) (R : List (Addr × Obj)) (i : Nat) (f : Flow) (s' : Shared) : Prop :=
  f = .next ∧ ∃ (h' : Heap) (tk : Nat) (m' : Str → Option Value) (cst' : CSt) (lst' : LSt) (R' : List (Addr × Obj)), s' = { s with heap := h', toks := tk } ∧ Fr g x.L h' m' ∧ HasLaw x cst' m' ∧
    News g x.L h' (LedC x cst' lst' R') ∧ Inv w x cst' lst' R' i ∧ ∀ y ∈ R, y ∈ R'
theorem turn {n : Int} {t : Tok} (hE : ∀ e : Addr, PassesOwnAt (model PySem.Challenge.rw_iy0004_01.row.prog w) ((callerA.deeper (envOfC (Str.ofString "law") lawScope x.L fa (.ref 183))).mark (some (.ref e))) (callerA.deeper (envOfC (Str.ofString "law") lawScope x.L fa (.ref 183))) (envOfC (Str.ofString "law") lawScope x.L fa (.ref 183)) E)
  (hi : i ≤ 62) (F : Fr g x.L s.heap (fun y => if y = Str.ofString "n" then some (.int n t) else m y)) (H : HasLaw x cst m) (N : News g x.L s.heap (LedC x cst lst R)) (I : Inv w x cst lst R i) :
  wpAny (model PySem.Challenge.rw_iy0004_01.row.prog w) (callerA.deeper (envOfC (Str.ofString "law") lawScope x.L fa (.ref 183))) (execs forBody (envOfC (Str.ofString "law") lawScope x.L fa (.ref 183))) (TurnEnd w x g s R (i + 1)) E s := by
  rw [forBody_eq]
  refine turn_head B X T hG hU hD F N fun h1 tk1 t1 t2 t3 t4 F1 N1 => ?_
  have hk : 0 ≤ n.fmod 9 ∧ n.fmod 9 < 9 := by rw [Int.fmod_eq_emod_of_nonneg _ (by decide)]; lia
  have h07 : 0 ≤ (n.fdiv 9).fmod 7 ∧ (n.fdiv 9).fmod 7 < 7 := by rw [Int.fmod_eq_emod_of_nonneg _ (by decide)]; lia
  obtain ⟨zt, yt, e⟩ := lawMap_of (H.keep (v := some (.int n t)))
  have F2 : Fr g x.L h1 (deedMap x cst.size cst.stay zt yt (n.fmod 9) (n.fdiv 9) ((n.fdiv 9).fmod 7) (((n.fdiv 9).fdiv 7).fmod 100) t1 t2 t3 t4 (fun y => if y = Str.ofString "n" then some (.int n t) else m y)) := by
    refine cast (congrArg (Fr g x.L h1) ?_) F1
    funext y
    show (if y = Str.ofString "fresh" then _ else if y = Str.ofString "key" then _ else if y = Str.ofString "q" then _ else if y = Str.ofString "kind" then _ else (fun y => if y = Str.ofString "n" then some (.int n t) else m y) y) = (if y = Str.ofString "fresh" then _ else if y = Str.ofString "key" then _ else if y = Str.ofString "q" then _ else if y = Str.ofString "kind" then _ else lawMap x cst.size cst.stay zt yt (fun y => if y = Str.ofString "n" then some (.int n t) else m y) y)
    rw [← congrFun e y]
  refine wpAny_execs_cons (wpAny_mono (deeds B X T hG hU hD hE (by lia) hk h07 F2 N1 I) (fun f s' h => ?_) fun _ _ e => e)
  obtain ⟨rfl, h2, tk2, m2, cst2, lst2, R2, tkk, rfl, F3, H3, hkey, N3, I3, hR⟩ := h
  obtain ⟨zt2, yt2, e2⟩ := chkMap_of H3 hkey
  rw [e2] at F3
  refine wpAny_mono (checks B X T hG hU hD (by lia) F3 N3 I3) (fun f s' h => ?_) fun _ _ e => e
  obtain ⟨rfl, h4, tk4, rfl, F4, N4⟩ := h
  exact ⟨rfl, h4, tk4, _, cst2, lst2, R2, rfl, F4, HasLaw.chk, N4, I3, hR⟩
end
end
section
-- LLoop
open PySem PySem.W PySem.Calls PyProof.Rows
noncomputable abbrev dynA (x : LawFix) (cst : CSt) (lst : LSt) : List Addr := x.c.ol :: x.c.cd :: x.c.dc :: (cst.line.map Node.d ++ Ads (Ldyn x.lc lst))
theorem ads_ledC (x : LawFix) (cst : CSt) (lst : LSt) (R : List (Addr × Obj)) : Ads (LedC x cst lst R) = dynA x cst lst ++ Ads R := by
  rw [ads_led]
  simp [dynA, Ads]
theorem dyn_nd {x : LawFix} {cst : CSt} {lst : LSt} {R : List (Addr × Obj)} (h : (x.c.ol :: x.c.cd :: x.c.dc :: (cst.line.map Node.d ++ Ads (Ldyn x.lc lst ++ R))).Nodup) : (dynA x cst lst ++ Ads R).Nodup := by
  rw [← ads_led, ads_ledC] at h
  exact h
theorem nd_dyn {x : LawFix} {cst : CSt} {lst : LSt} {R : List (Addr × Obj)} (h : (dynA x cst lst ++ Ads R).Nodup) : (x.c.ol :: x.c.cd :: x.c.dc :: (cst.line.map Node.d ++ Ads (Ldyn x.lc lst ++ R))).Nodup := by
  rw [← ads_led, ads_ledC]
  exact h
theorem mem_dyn {x : LawFix} {cst : CSt} {lst : LSt} {R R' : List (Addr × Obj)} {p : Addr × Obj} (h : p ∈ LedC x cst lst R) : p ∈ R ∨ (p.1 ∈ dynA x cst lst ∧ p ∈ LedC x cst lst R') := by
  rcases List.mem_cons.mp h with h | h
  · exact .inr ⟨by subst h; exact .head _, h ▸ .head _⟩
  rcases List.mem_cons.mp h with h | h
  · exact .inr ⟨by subst h; exact .tail _ (.head _), .tail _ (h ▸ .head _)⟩
  rcases List.mem_cons.mp h with h | h
  · exact .inr ⟨by subst h; exact .tail _ (.tail _ (.head _)), .tail _ (.tail _ (h ▸ .head _))⟩
  rcases List.mem_append.mp h with h | h
  · refine .inr ⟨.tail _ (.tail _ (.tail _ (List.mem_append_left _ ?_))), .tail _ (.tail _ (.tail _ (List.mem_append_left _ h)))⟩
    rw [← ads_seg (ga := x.c.ga) cst.line .none .none]
    exact List.mem_map.mpr ⟨p, h, rfl⟩
  rcases List.mem_append.mp h with h | h
  · exact .inr ⟨.tail _ (.tail _ (.tail _ (List.mem_append_right _ (List.mem_map.mpr ⟨p, h, rfl⟩)))), .tail _ (.tail _ (.tail _ (List.mem_append_right _ (List.mem_append_left _ h))))⟩
  · exact .inl h
theorem ledC_mono {x : LawFix} {cst : CSt} {lst : LSt} {R R' : List (Addr × Obj)} (h : ∀ y ∈ R, y ∈ R') : ∀ z ∈ LedC x cst lst R, z ∈ LedC x cst lst R' := by
  intro z hz
  rcases mem_dyn (R' := R') hz with h1 | h1
  · exact .tail _ (.tail _ (.tail _ (List.mem_append_right _ (List.mem_append_right _ (h z h1)))))
  · exact h1.2
theorem LGood.add {w : World} {c : LFix} {s : LSt} {K K' : List (Addr × Obj)} (G : LGood w c s K) (h : ∀ y ∈ K, y.2.cls = .type "tuple" → y ∈ K') : LGood w c s K' :=
  ⟨G.hoh, G.hkv, G.hkeys, fun e he => h _ (G.htup e he) rfl, fun u hu => h _ (G.hdue u hu) rfl, G.hha, G.hroom⟩
/-- the still part may turn: what the books name must stay -/
theorem Inv.turnR {w : World} {x : LawFix} {cst : CSt} {lst : LSt} {R R' : List (Addr × Obj)} {i : Nat} (I : Inv w x cst lst R i) (h : ∀ y ∈ R, y.2.cls ≠ .type "list_iterator" → y.2.cls ≠ .type "list" → y ∈ R') (S : Stat x R')
    (hnd : (dynA x cst lst ++ Ads R').Nodup) : Inv w x cst lst R' i := by
  have hX : ∀ y ∈ R', y ∈ Ldyn x.lc lst ++ R' := fun y hy => List.mem_append_right _ hy
  have G := I.G
  refine ⟨⟨G.hoc, G.hkv, G.hkeys, hX _ (h _ I.ca (by simp [instObj]) (by simp [instObj])), fun n hn => hX _ (h _ (not_dyn (X := []) I.P (G.hin n hn) (by simp [instObj]) (by simp [instObj])) (by simp [instObj]) (by simp [instObj])), fun u hu => hX _ (h _ (not_dyn (X := []) I.P (G.hos u hu) (by simp [Tup.obj, tup2]) (by simp [Tup.obj, tup2])) (by simp [Tup.obj, tup2]) (by simp [Tup.obj, tup2])), nd_dyn hnd, fun y hy => hX _ (S.gS y hy), G.hdc, G.hga, G.hroom⟩,
    I.P.add fun y hy e => h y hy (by rw [e]; decide) (by rw [e]; decide), S, I.vl, I.vo, I.hz, I.hy, I.hl, I.hi, I.hk⟩
section
variable {w : World} {p : Program} {loose : List Str} {mean : ExcName → Option Value} {mg mb : Str → Option Value} {g : Heap} {x : LawFix} {fa : Addr} {s : Shared} {Q : Flow → Shared → Prop} {E : Value → Shared → Prop} {cst : CSt} {lst : LSt} {R : List (Addr × Obj)} {i : Nat} {m : Str → Option Value} {zt yt t1 t2 t3 t4 : Tok} {q key fresh : Int}
  (B : Below callerA g [] g) (X : (hd.heap_39 w.params).In g) (T : Top p loose mean mg mb g)
  (hG : GoneSpec w p loose mean mg mb x.c.ga x.c.ol x.c.S₀) (hU : UseSpec w p loose mean mg mb x.ua x.lc x.Su) (hD : DropSpec w p loose mean mg mb x.da x.lc x.Sd)
include B X T hG hU hD
theorem law_loop {l : Addr} {vs : List Value} {ns : List Int} {nn : Nat} {Q : Flow → Shared → Prop} (hE : ∀ e : Addr, PassesOwnAt (model PySem.Challenge.rw_iy0004_01.row.prog w) ((callerA.deeper (envOfC (Str.ofString "law") lawScope x.L fa (.ref 183))).mark (some (.ref e))) (callerA.deeper (envOfC (Str.ofString "law") lawScope x.L fa (.ref 183))) (envOfC (Str.ofString "law") lawScope x.L fa (.ref 183)) E)
  (F : Fr g x.L s.heap m) (H : HasLaw x cst m) (N : News g x.L s.heap ((l, listOf vs.toArray nn) :: LedC x cst lst R)) (I : Inv w x cst lst R 0) (hi : IntsAre vs ns) (hns : ns.length ≤ 62) (hl : ∀ p ∈ LedC x cst lst R, p.1 ≠ l)
  (done : ∀ (h' : Heap) (tk : Nat) (m' : Str → Option Value) (cst' : CSt) (lst' : LSt) (R' : List (Addr × Obj)), Fr g x.L h' m' → HasLaw x cst' m' → News g x.L h' (LedC x cst' lst' R') → Inv w x cst' lst' R' ns.length → (∀ y ∈ R, y ∈ R') → Q .next { s with heap := h', toks := tk }) :
  wpAny (model PySem.Challenge.rw_iy0004_01.row.prog w) (callerA.deeper (envOfC (Str.ofString "law") lawScope x.L fa (.ref 183))) (pyIter (.ref l)) (fun it s₂ => LoopAtV PySem.Challenge.rw_iy0004_01.row.prog w (callerA.deeper (envOfC (Str.ofString "law") lawScope x.L fa (.ref 183))) g (envOfC (Str.ofString "law") lawScope x.L fa (.ref 183)) (Str.ofString "n") forBody Q E it s₂) E s := by
  have hol : s.heap.get? l = some (listOf vs.toArray nn) := (N _ (.head _)).1
  have hls : s.heap.IsList l vs.toArray := ⟨_, hol, rfl, nn, rfl⟩
  have hne : l ≠ s.heap.objs.size := Nat.ne_of_lt (Heap.lt_size hol)
  refine wpAny_pyIter_list hls ?_
  have W := Walks.list (prog := PySem.Challenge.rw_iy0004_01.row.prog) (w := w) (A := (callerA.deeper (envOfC (Str.ofString "law") lawScope x.L fa (.ref 183)))) rfl s.heap.objs.size l hne vs.toArray
  have hlen : vs.toArray.size = ns.length := by simp [hi.length]
  rw [hlen] at W
  refine ⟨_, _, _, ns.length, _, _, m, LedC x cst lst R, (fun i m nx => ∃ cst lst R', nx = LedC x cst lst R' ∧ Inv w x cst lst R' i ∧ HasLaw x cst m ∧ (∀ p ∈ nx, p.1 ≠ l) ∧ ∀ y ∈ R, y ∈ R'), rfl, W, ?_, ?_, ?_, ⟨⟨_, Heap.get?_push_size _ rfl, rfl, rfl⟩, hls.at fun o e => Heap.get?_push_of_some _ e⟩, F.push _, (fun p hp => ⟨Heap.get?_push_of_some _ (N p (.tail _ hp)).1, (N p (.tail _ hp)).2⟩), ⟨cst, lst, R, rfl, I, H, hl, fun y hy => hy⟩, ?_, ?_⟩
  · intro hm
    rcases List.mem_cons.mp hm with e | hm
    · exact absurd F.ns.lt (e ▸ Nat.lt_irrefl _)
    · exact (N _ (.head _)).2.1 ((List.mem_singleton.mp hm).symm)
  · intro b hb
    rw [List.mem_singleton.mp hb]
    exact next_is_new F
  · intro p hp hI
    exact absurd (Heap.lt_size (N p (.tail _ hp)).1) ((List.mem_singleton.mp hI) ▸ Nat.lt_irrefl _)
  · rintro i v m₁ news₁ s₁ own ⟨hh', tk', rfl⟩ hin hP ⟨cst1, lst1, R1, rfl, I1, H1, hl1, hR0⟩ hoff hown hget hfp hst₁ F₁ N₁
    have hlt' : i < ns.length := hin
    obtain ⟨t, hx⟩ := hi.get i ns[i] (by simp [hlt'])
    have hv : v = .int ns[i] t := by
      have hP' : vs[i]? = some v := by simpa using hP
      rw [hx] at hP'; exact (Option.some.inj hP').symm
    subst hv
    obtain ⟨⟨oI, eI, cI, dI⟩, ⟨oL, eL, cL, dL⟩⟩ := hst₁
    have mI := hfp s.heap.objs.size (.head _) (next_is_new F) oI eI
    have mL := hfp l (.tail _ (.head _)) (N _ (.head _)).2.2 oL eL
    have N₂ : News g x.L hh' ([(s.heap.objs.size, oI), (l, oL)] ++ LedC x cst1 lst1 R1) := by
      intro p hp
      rcases List.mem_append.mp hp with hp | hp
      · rcases List.mem_cons.mp hp with rfl | hp
        · exact N₁ _ (List.mem_append_left _ mI)
        · rw [List.mem_singleton.mp hp]; exact N₁ _ (List.mem_append_left _ mL)
      · exact N₁ _ (List.mem_append_right _ hp)
    have hfr : ∀ b ∈ dynA x cst1 lst1 ++ Ads R1, b ≠ s.heap.objs.size ∧ b ≠ l := by
      rw [← ads_ledC]
      intro b hb
      obtain ⟨p, hp, rfl⟩ := List.mem_map.mp hb
      exact ⟨fun e => hoff p hp (by rw [e]; exact .head _), hl1 p hp⟩
    have hnd1 : (dynA x cst1 lst1 ++ Ads ([(s.heap.objs.size, oI), (l, oL)] ++ R1)).Nodup := by
      have h1 : (l :: (dynA x cst1 lst1 ++ Ads R1)).Nodup := List.nodup_cons.mpr ⟨fun hm => (hfr _ hm).2 rfl, dyn_nd I1.G.hnd⟩
      have h2 : (s.heap.objs.size :: l :: (dynA x cst1 lst1 ++ Ads R1)).Nodup := List.nodup_cons.mpr ⟨fun hm => by
        rcases List.mem_cons.mp hm with e | hm
        · exact hne e.symm
        · exact (hfr _ hm).1 rfl, h1⟩
      refine nodup_perm h2 fun y => ?_
      simp only [Ads, List.map_append, List.cons_append, List.nil_append, List.map_cons, List.map_nil, List.count_cons, List.count_append, List.count_nil]; lia
    have I2 : Inv w x cst1 lst1 ([(s.heap.objs.size, oI), (l, oL)] ++ R1) i := I1.turnR (fun y hy _ _ => List.mem_append_right _ hy) (I1.S.sub fun y hy => List.mem_append_right _ hy) hnd1
    have N3 : News g x.L hh' (LedC x cst1 lst1 ([(s.heap.objs.size, oI), (l, oL)] ++ R1)) := by
      intro p hp
      rcases mem_dyn (R' := R1) hp with h1 | h1
      · rcases List.mem_append.mp h1 with h1 | h1
        · exact N₂ p (List.mem_append_left _ h1)
        · exact N₂ p (List.mem_append_right _ (.tail _ (.tail _ (.tail _ (List.mem_append_right _ (List.mem_append_right _ h1))))))
      · exact N₂ p (List.mem_append_right _ h1.2)
    refine wpAny_mono (turn B X T hG hU hD hE (s := { s with heap := hh', toks := tk' }) (by lia) F₁ H1 N3 I2) (fun f s₂ p => ?_) fun _ _ e => e
    obtain ⟨rfl, h', tk, m', cst', lst', R', rfl, F', H', N', I', hR⟩ := p
    have hndR := dyn_nd I'.G.hnd
    have mI' : (s.heap.objs.size, oI) ∈ R' := hR _ (.head _)
    have mL' : (l, oL) ∈ R' := hR _ (.tail _ (.head _))
    have hAR : (Ads R').Nodup := (List.nodup_append.mp hndR).2.1
    have hdis : ∀ a ∈ dynA x cst' lst', a ≠ s.heap.objs.size ∧ a ≠ l := fun a ha => ⟨(List.nodup_append.mp hndR).2.2 a ha _ (List.mem_map.mpr ⟨_, mI', rfl⟩), (List.nodup_append.mp hndR).2.2 a ha _ (List.mem_map.mpr ⟨_, mL', rfl⟩)⟩
    let R'' := R'.filter fun p => decide (p.1 ≠ s.heap.objs.size ∧ p.1 ≠ l)
    have hsub : ∀ y ∈ R'', y ∈ R' := fun y hy => (List.mem_filter.mp hy).1
    have hin2 : ∀ y ∈ R', y.1 ≠ s.heap.objs.size → y.1 ≠ l → y ∈ R'' := fun y hy h1 h2 => List.mem_filter.mpr ⟨hy, by simpa using ⟨h1, h2⟩⟩
    have hR1 : ∀ y ∈ R1, y ∈ R'' := fun y hy => by
      have := hfr y.1 (List.mem_append_right _ (List.mem_map.mpr ⟨y, hy, rfl⟩))
      exact hin2 y (hR y (.tail _ (.tail _ hy))) this.1 this.2
    have I3 : Inv w x cst' lst' R'' (i + 1) := by
      refine I'.turnR (fun y hy c1 c2 => hin2 y hy (fun e => ?_) fun e => ?_) (I1.S.sub hR1) ?_
      · rw [same_of_ads hAR hy mI' e] at c1; exact c1 cI
      · rw [same_of_ads hAR hy mL' e] at c2; exact c2 cL
      · exact hndR.sublist (List.Sublist.append (List.Sublist.refl _) (List.Sublist.map _ List.filter_sublist))
    have hoffN : ∀ p ∈ LedC x cst' lst' R'', p.1 ≠ s.heap.objs.size ∧ p.1 ≠ l := fun p hp => by
      rcases mem_dyn (R' := R'') hp with h1 | h1
      · simpa using (List.mem_filter.mp h1).2
      · exact hdis _ h1.1
    refine .next (LoopStepU.intro F' (news₂ := LedC x cst' lst' R'') (fun p hp => ?_) (fun p hp hm => (hoffN p hp).1 (List.mem_singleton.mp hm)) ⟨cst', lst', R'', rfl, I3, H', fun p hp => (hoffN p hp).2, fun y hy => hR1 y (hR0 y hy)⟩)
    rcases List.mem_append.mp hp with hp | hp
    · refine N' p (.tail _ (.tail _ (.tail _ (List.mem_append_right _ (List.mem_append_right _ ?_)))))
      have hg := hget p hp
      rcases List.mem_cons.mp (hown p hp) with e | e
      · have e' : p.1 = s.heap.objs.size := e
        rw [e'] at hg
        have : p = (s.heap.objs.size, oI) := Prod.ext e' (Option.some.inj (hg.symm.trans eI))
        rw [this]; exact mI'
      · have e' : p.1 = l := List.mem_singleton.mp e
        rw [e'] at hg
        have : p = (l, oL) := Prod.ext e' (Option.some.inj (hg.symm.trans eL))
        rw [this]; exact mL'
    · exact N' p (ledC_mono hsub p hp)
  · rintro h' tk m' news' F' N' _ ⟨cst', lst', R', rfl, I', H', _, hR0⟩
    exact done h' tk m' cst' lst' R' F' H' N' I' hR0
end
end
section
-- LTail
open PySem PySem.W PySem.Calls PyProof.Rows
theorem rules_LTail0 : True := by
  k_with_none
  k_with "ne" => (refine neN ?_; (try dsimp only); first | assumption | (apply Ne.symm; assumption))
  k_with "tone" => (refine neN ?_; (try dsimp only); first | assumption | (apply Ne.symm; assumption))
  k_with "mem" => assumption
  k_with "subscriptTail" => (k_here; (with_reducible show wpAny _ _ (subscriptTail _ _ (Value.ref _) (Value.int _ _)) _ _ _); k_dflt (refine' kda_item (knd := PySem.intKind _ _) ?Nr ?mr ?dr (intKind_is _ _ _ _) ?vr ?_; (case Nr => k_asm); (case mr => k_mem); (case dr => assumption); (case vr => assumption)))
  k_with "getItem ref int" => (k_here; k_dflt (refine' gi_sym ?Nr ?mr ?dr ?vr ?_; (case Nr => k_asm); (case mr => k_mem); (case dr => assumption); (case vr => assumption); k_whole))
  k_with "call builtin:len" => (k_here; (with_reducible show wpAny _ _ (call (Value.builtin "len") [Value.ref _]) _ _ _); k_dflt (refine' kda_len (knd := PySem.intKind _ _) ?Nr ?mr ?dr ?lr ?zr ?_; (case Nr => k_asm); (case mr => k_mem); (case dr => assumption); (case lr => assumption); (case zr => first | assumption | lia); k_whole))
  k_with "compareOp In int ref" => (k_here; k_dflt (first
    | (refine' kda_in (knd := PySem.intKind _ _) ?Nr ?mr ?dr ?lr (intKind_is _ _ _ _) true ?br ?_; (case Nr => k_asm); (case mr => k_mem); (case dr => assumption); (case lr => assumption); (case br => exact Option.isSome_iff_exists.mpr ⟨_, by assumption⟩); k_whole)
    | (refine' kda_in (knd := PySem.intKind _ _) ?Nr ?mr ?dr ?lr (intKind_is _ _ _ _) false ?br ?_; (case Nr => k_asm); (case mr => k_mem); (case dr => assumption); (case lr => assumption); (case br => exact Option.isSome_eq_false_iff.mpr (Option.isNone_iff_eq_none.mpr (by assumption))); k_whole)))
  k_with "setItem ref int" => (k_here; k_dflt (refine' kda_set (knd := PySem.intKind _ _) ?Fr ?Nr ?Ur ?dr (intKind_is _ _ _ _) ?zr ?_; (case Fr => k_asm); (case Nr => k_asm); (case Ur => k_updF); (case dr => assumption); (case zr => assumption)); intro h'r o'r F'r N'r hd'r; (try dsimp only at N'r))
  k_with "getMethod ref" => (k_here; (with_reducible show wpAny _ _ (getMethod (Value.ref _) (Str.ofString "pop") _) _ _ _); k_dflt (refine' kob_method (knd := PySem.intKind _ _) PySem.F.slot_dict_pop PySem.F.type_dict_pop ?Nr ?mr ?dr ?_; (case Nr => k_asm); (case mr => k_mem); (case dr => assumption)))
  k_with "getMethod ref" => (k_here; (with_reducible show wpAny _ _ (getMethod (Value.ref _) (Str.ofString "get") _) _ _ _); k_dflt (refine' kdg_method (knd := PySem.intKind _ _) ?Nr ?mr ?dr ?_; (case Nr => k_asm); (case mr => k_mem); (case dr => assumption)))
  k_with "call builtin:dict.pop" => (k_here; (with_reducible show wpAny _ _ (call (Value.builtin "dict.pop") [Value.ref _, Value.int _ _]) _ _ _); k_dflt (refine' kob_pop (knd := PySem.intKind _ _) (more := []) ?Fr ?Nr ?Ur ?dr (intKind_is _ _ _ _) (.inl rfl) (by rfl) (PySem.F.args_dict_pop_2 _ _) ?lr ?zr ?_; (case Fr => k_asm); (case Nr => k_asm); (case Ur => k_updF); (case dr => assumption); (case lr => assumption); (case zr => assumption)); intro h'r o'r F'r N'r hd'r; (try dsimp only at N'r))
  k_with "call builtin:dict.get" => (k_here; (with_reducible show wpAny _ _ (call (Value.builtin "dict.get") [Value.ref _, Value.int _ _, _]) _ _ _); k_dflt (refine' kdg_get2 (knd := PySem.intKind _ _) ?Nr ?mr ?dr ?lr (intKind_is _ _ _ _) _ ?vr ?_; (case Nr => k_asm); (case mr => k_mem); (case dr => assumption); (case lr => assumption); (case vr => assumption)); (try dsimp only [Option.getD]))
  k_with "enter" => (refine' code_def ?k1r ?k2r ?k3r ?k4r ?k5r ?kAr ?kFr ?kKr ?k6r ?k7r ?k8r ?k9r ?kBr ?_ ?c2r ?c3r ?c4r ?c5r; (case kAr => exact rfl); (case kFr => exact rfl); (case kKr => first | exact rfl | assumption); (case k1r => k_asm); (case k2r => k_asm); (case k3r => k_asm); (case k4r => k_asm); (case k5r => k_asm); (case k6r => k_is); (case k7r => k_is); (case k8r => ktr_room); (case k9r => first | exact BindsTo.of_eq rfl | exact binds_K (by k_in) rfl (by k_is) rfl rfl rfl); (case c5r => decide); (case kBr => exact locs rfl); (case c2r => exact rfl); (case c3r => exact rfl); (case c4r => exact rfl); k_whole; intro g'r L'r h'r FG'r F'r N'r B'r X'r T'r; (try dsimp only); (try k_fold))
  k_with "callWith ref" => (k_here; k_dflt (refine' callWith_F ?k1r ?_; (case k1r => exact FnAt.of (by k_asm) (by k_mem)); k_whole))
  trivial
noncomputable def lb (i : Nat) : Stmt := match lawBody[i]? with
  | some s => s
  | none => default
/-- here the walk stands still -/
noncomputable def Halt (P : Prop) : Prop := P
theorem halt {P : Prop} (h : Halt P) : P := h
section
variable {w : World} {p : Program} {loose : List Str} {mean : ExcName → Option Value} {mg mb : Str → Option Value} {g : Heap} {x : LawFix} {fa : Addr} {s : Shared} {Q : Flow → Shared → Prop} {E : Value → Shared → Prop} {cst : CSt} {lst : LSt} {R : List (Addr × Obj)} {i : Nat} {m : Str → Option Value} {zt yt t1 t2 t3 t4 : Tok} {q key fresh : Int}
  (B : Below callerA g [] g) (X : (hd.heap_39 w.params).In g) (T : Top p loose mean mg mb g)
  (hG : GoneSpec w p loose mean mg mb x.c.ga x.c.ol x.c.S₀) (hU : UseSpec w p loose mean mg mb x.ua x.lc x.Su) (hD : DropSpec w p loose mean mg mb x.da x.lc x.Sd)
include B X T hG hU hD
theorem rules_LTail1 : True := by
  k_with "mem" => exact List.mem_append_right _ (by assumption)
  k_with "call ref" => (k_here; (with_reducible show wpAny _ _ (call (Value.ref 79) _ _) _ _ _); (rename Inv _ _ _ _ _ _ => I9r); (rename News _ _ _ _ => N9r); k_dflt (refine' ln_ok ?g1r ?g2r ?g3r ?g4r rfl ?g6r (kst_newsOf N9r ledLC) (Inv.G I9r) ?_; (case g1r => k_asm); (case g2r => k_asm); (case g3r => k_asm); (case g4r => k_asm); (case g6r => ktr_room)); intro t9r h9r tk9r F9r N8r; (have N7r := kst_newsOf N8r ledCL); clear N9r N8r; (dsimp only [PySem.W.LenBack]); (refine ⟨⟨by lia, by lia⟩, ?_⟩); (try dsimp only); (try k_fold))
  k_with "compareOp Eq ref ref" => (k_here; k_dflt (refine' tups_eq ?Nr ?ar ?br ?usr ?wsr ?er ?ur ?_; (case Nr => k_asm); (case ar => k_mem); (case br => k_mem); (case usr => assumption); (case wsr => assumption); (case er => assumption); (case ur => ke_room)))
  trivial
set_option maxRecDepth 100000 in
set_option maxHeartbeats 400000 in
theorem tail2 (hi : i ≤ 64) (F : Fr g x.L s.heap (lawMap x cst.size cst.stay zt yt m)) (N : News g x.L s.heap (LedC x cst lst R)) (I : Inv w x cst lst R i) (h0 : cst.line.length = 0)
  (ret : ∀ (h' : Heap) (tk : Nat), Fr g x.L h' (lawMap x cst.size cst.stay zt yt m) → News g x.L h' (LedL x cst lst R) → Q (.ret (.bool true)) { s with heap := h', toks := tk }) :
  wpAny (model PySem.Challenge.rw_iy0004_01.row.prog w) (callerA.deeper (envOfC (Str.ofString "law") lawScope x.L fa (.ref 183))) (exec (lb 14) (envOfC (Str.ofString "law") lawScope x.L fa (.ref 183))) Q E s := by
  revert X; k_fill; intro X
  have es : lawScope = Scope.mk _ _ _ _ _ := rfl
  have eb : lb 14 = Stmt.Return (some _) _ := rfl
  rw [es, eb]
  clear es eb
  have hus := I.tups
  have hws : ∀ u ∈ lst.dues, (u.t, u.obj) ∈ LedL x cst lst R := fun u hu => ledCL' (I.P.hdue u hu)
  have vo := I.vo
  have mout := I.S.mout
  have mdue := I.S.mdue
  have vout := I.S.vout
  have vdue := I.S.vdue
  have hca := I.ca
  have hsz := I.sizes hi
  have N1 := kst_newsOf N ledCL
  clear N
  k_steps
  rw [show ((cst.line.length : Int) == 0) = true by rw [h0]; rfl]
  exact ret _ _ (by assumption) (by assumption)
theorem tail3 (hi : i ≤ 64) (F : Fr g x.L s.heap (lawMap x cst.size cst.stay zt yt m)) (N : News g x.L s.heap (LedC x cst lst R)) (I : Inv w x cst lst R i) (h0 : cst.line.length = 0)
  (ret : ∀ (h' : Heap) (tk : Nat), Fr g x.L h' (lawMap x cst.size cst.stay zt yt m) → News g x.L h' (LedL x cst lst R) → Q (.ret (.bool true)) { s with heap := h', toks := tk }) :
  wpAny (model PySem.Challenge.rw_iy0004_01.row.prog w) (callerA.deeper (envOfC (Str.ofString "law") lawScope x.L fa (.ref 183))) (execs [lb 14] (envOfC (Str.ofString "law") lawScope x.L fa (.ref 183))) Q E s :=
  wpAny_execs_cons (tail2 B X T hG hU hD hi F N I h0 ret)
theorem rules_LTail2 : True := by
  k_with "call ref" => (k_here; (with_reducible show wpAny _ _ (call (Value.ref 156) _ _) _ _ _); (rename Inv _ _ _ _ _ _ => I9r); (rename News _ _ _ _ => N9r); k_dflt (refine' cr_ok ?g1r ?g2r ?g3r ?g4r rfl ?g6r (kst_newsOf N9r ledLC) (Inv.G I9r) ?g7r ?_; (case g1r => k_asm); (case g2r => k_asm); (case g3r => k_asm); (case g4r => k_asm); (case g6r => ktr_room); (case g7r => assumption)); intro cst8r X8r d8r C8r hl8r G8r h9r tk9r F9r N8r; (have N7r := kst_newsOf (kst_newsOf N8r ledX) ledCL); clear N9r N8r; (have hv8r := cut_view (m := 0) C8r (by rw [hl8r]; simp)); (have S8r := (Inv.S I9r).mono (X := X8r)); (have P8r := (Inv.P I9r).mono (X := X8r)); (have D8r := nodupL1 G8r (Inv.P I9r) I9r.S.gS); (obtain ⟨da1, da2, da3, da4, dfn8⟩ := S8r.dfn); (try dsimp only); (try k_fold))
  k_with "call ref" => (k_here; (rename DropSpec _ _ _ _ _ _ _ _ _ => hD9r); (rename Stat _ (_ ++ _) => S9r); k_dflt (refine' hD9r _ _ _ _ _ _ _ _ _ _ _ _ _ _ _ _ _ _ _ _ _ _ ?p1r ?p2r ?p3r ?p4r ?p5r ?pkr ?p6r ?p7r ?p8r ?p9r ?par ?pbr ?_; (case p1r => k_asm); (case p2r => k_asm); (case p3r => k_asm); (case p4r => assumption); (case p5r => k_asm); (case pkr => rfl); (case p6r => ktr_room); (case p7r => exact fun y hy => memLed (S9r.dS y hy)); (case par => assumption); (case p8r => exact fun y hy => memLed hy); (case p9r => assumption); (case pbr => first | assumption | lia | decide)); intro lst9r X9r he9r ho9r P9r nd9r h9r tk9r F9r N9r; (try dsimp only); (try k_fold))
  k_with "execs cons" => (k_here; (with_reducible show wpAny _ _ (execs (Stmt.Return _ _ :: _) _) _ _ _); k_dflt (refine halt ?_))
  trivial
set_option maxRecDepth 100000 in
set_option maxHeartbeats 400000 in
theorem tail1 (hi : i ≤ 62) (F : Fr g x.L s.heap (lawMap x cst.size cst.stay zt yt m)) (N : News g x.L s.heap (LedC x cst lst R)) (I : Inv w x cst lst R i)
  (ret : ∀ (h' : Heap) (tk : Nat) (m' : Str → Option Value) (cst' : CSt) (lst' : LSt) (R' : List (Addr × Obj)), Fr g x.L h' m' → News g x.L h' (LedL x cst' lst' R') → (∀ y ∈ R, y ∈ R') → Q (.ret (.bool true)) { s with heap := h', toks := tk }) :
  wpAny (model PySem.Challenge.rw_iy0004_01.row.prog w) (callerA.deeper (envOfC (Str.ofString "law") lawScope x.L fa (.ref 183))) (execs [lb 12, lb 13, lb 14] (envOfC (Str.ofString "law") lawScope x.L fa (.ref 183))) Q E s := by
  have X0 := X
  revert X; k_fill; intro X
  have es : lawScope = Scope.mk _ _ _ _ _ := rfl
  have eb : lb 12 = Stmt.Expr _ _ := rfl
  have eb2 : lb 13 = Stmt.Expr _ _ := rfl
  have eb3 : lb 14 = Stmt.Return (some _) _ := rfl
  rw [es, eb, eb2, eb3]
  clear es eb eb2 eb3
  have hsz := I.sizes (Nat.le_trans hi (by decide))
  have hy0 := I.hy.1
  have hca := I.ca
  have N1 := kst_newsOf N ledCL
  clear N
  k_steps
  (rename absS _ = vdrop _ _ => hv8); (rename Inv _ _ _ _ _ _ => I); (rename News _ _ _ _ => N9); (rename Fr _ _ _ _ => F9); (rename CSt => m9)
  have I2 := I.drop hv8 (by assumption) (by assumption) (by assumption) (by assumption) (by assumption) I.hz I.hy (by have := I.hy; lia)
  have e1 := congrArg V.size hv8
  have e2 := congrArg V.stay hv8
  have e3 := congrArg List.length (congrArg V.l hv8)
  have e4 : m9.line.length = 0 := by simpa [absL, vdrop] using e3
  have N2 := kst_newsOf N9 ledY
  rw [show cst.size = _ from e1.symm, show cst.stay = _ from e2.symm] at F9
  exact tail3 B X T hG hU (by assumption) (i := i + 1) (by lia) F9 N2 I2 e4 fun h' tk F' N' => ret h' tk _ _ _ _ F' N' fun y hy => List.mem_append_right _ (List.mem_append_right _ hy)
end
end
section
-- LCtor
open PySem PySem.W PySem.Calls PyProof.Rows
theorem rules_LCtor0 : True := by
  k_with_none
  k_with "ne" => (refine neN ?_; (try dsimp only); first | assumption | (apply Ne.symm; assumption))
  k_with "tone" => (refine neN ?_; (try dsimp only); first | assumption | (apply Ne.symm; assumption))
  k_with "mem" => (first | assumption | exact mem_at 0 rfl | exact mem_at 1 rfl | exact mem_at 2 rfl | exact mem_at 3 rfl | exact mem_at 4 rfl | exact mem_at 5 rfl | exact mem_dr 1 (by assumption) | exact mem_dr 2 (by assumption) | exact mem_dr 3 (by assumption) | exact mem_dr 4 (by assumption) | exact mem_dr 5 (by assumption))
  k_with "getAttr ref" => (k_here; k_dflt ((first | (with_reducible refine' gN_p ?F1r ?X1r ?N1r ?h1r ?h2r ?v1r ?_) | (with_reducible refine' gN_nx ?F1r ?X1r ?N1r ?h1r ?h2r ?v1r ?_) | (with_reducible refine' gN_k ?F1r ?X1r ?N1r ?h1r ?h2r ?v1r ?_) | (with_reducible refine' gN_v ?F1r ?X1r ?N1r ?h1r ?h2r ?v1r ?_) | (with_reducible refine' gN_c ?F1r ?X1r ?N1r ?h1r ?h2r ?v1r ?_) | (with_reducible refine' gC_c ?F1r ?X1r ?N1r ?h1r ?h2r ?v1r ?_) | (with_reducible refine' gC_r ?F1r ?X1r ?N1r ?h1r ?h2r ?v1r ?_) | (with_reducible refine' gC_l ?F1r ?X1r ?N1r ?h1r ?h2r ?v1r ?_) | (with_reducible refine' gC_z ?F1r ?X1r ?N1r ?h1r ?h2r ?v1r ?_) | (with_reducible refine' gC_y ?F1r ?X1r ?N1r ?h1r ?h2r ?v1r ?_)); (case F1r => k_asm); (case X1r => k_asm); (case N1r => k_asm); (case h1r => k_mem); (case h2r => k_mem); (case v1r => k_handed); k_whole))
  k_with "setAttr ref" => (k_here; k_dflt (first | ((first | (with_reducible refine' sN_p ?F1r ?X1r ?N1r ?h1r ?h2r ?U1r ?_) | (with_reducible refine' sN_nx ?F1r ?X1r ?N1r ?h1r ?h2r ?U1r ?_) | (with_reducible refine' sN_v ?F1r ?X1r ?N1r ?h1r ?h2r ?U1r ?_) | (with_reducible refine' sN_c ?F1r ?X1r ?N1r ?h1r ?h2r ?U1r ?_) | (with_reducible refine' sC_r ?F1r ?X1r ?N1r ?h1r ?h2r ?U1r ?_) | (with_reducible refine' sC_l ?F1r ?X1r ?N1r ?h1r ?h2r ?U1r ?_) | (with_reducible refine' sC_z ?F1r ?X1r ?N1r ?h1r ?h2r ?U1r ?_) | (with_reducible refine' sC_y ?F1r ?X1r ?N1r ?h1r ?h2r ?U1r ?_)); (case F1r => k_asm); (case X1r => k_asm); (case N1r => k_asm); (case h1r => k_mem); (case h2r => k_mem); (case U1r => (first | exact upd_nd 0 (by assumption) rfl | exact upd_nd 1 (by assumption) rfl | exact upd_nd 2 (by assumption) rfl | exact upd_nd 3 (by assumption) rfl | exact upd_nd 4 (by assumption) rfl | exact upd_nd 5 (by assumption) rfl | exact upd_nd _ (by assumption) (by assumption) | k_upd)); k_whole) | (refine' set_dict ?k1r ?k2r ?k3r ?k4r ?k5r ?k6r ?k7r ?k8r ?k9r ?k10r ?k11r ?k12r ?k13r ?_; (case k1r => k_asm); (case k2r => k_asm); (case k3r => k_asm); (case k4r => k_inst); (case k5r => exact rfl); (case k6r => k_is); (case k7r => k_is); (case k8r => k_is); (case k9r => k_is); (case k10r => k_get); (case k11r => k_put); (case k12r => (first | exact upd_nd 0 (by assumption) rfl | exact upd_nd 1 (by assumption) rfl | exact upd_nd 2 (by assumption) rfl | exact upd_nd 3 (by assumption) rfl | exact upd_nd 4 (by assumption) rfl | exact upd_nd 5 (by assumption) rfl | exact upd_nd _ (by assumption) (by assumption) | k_upd)); (case k13r => exact Nat.le_of_ble_eq_true rfl); k_whole)); (refine (?_ : let l9 := _; ∀ h', Fr _ _ h' _ → News _ _ h' l9 → _)); intro l9r h'r F'r N'r; (try k_sweep))
  k_with "truthy ref" => (k_here; k_dflt ((refine' tN ?F1r ?X1r ?N1r ?h1r ?h2r ?_); (case F1r => k_asm); (case X1r => k_asm); (case N1r => k_asm); (case h1r => k_mem); (case h2r => k_mem); k_whole))
  k_with "storeName" => (k_here; k_dflt (refine' storeX_L ?F1r ?N1r ?_ ?a1r ?b1r; (case F1r => k_asm); (case N1r => k_asm); (case a1r => rfl); (case b1r => rfl); k_whole); (refine (?_ : let m9 := _; ∀ h', Fr _ _ h' m9 → News _ _ h' _ → _)); intro m9r h'r F'r N'r; (try k_sweep))
  k_with "subscriptTail" => (k_here; (with_reducible show wpAny _ _ (subscriptTail _ _ (Value.ref _) (Value.int _ _)) _ _ _); k_dflt (refine' kda_item (knd := PySem.intKind _ _) ?Nr ?mr ?dr (intKind_is _ _ _ _) ?vr ?_; (case Nr => k_asm); (case mr => k_mem); (case dr => assumption); (case vr => assumption)))
  k_with "getItem ref int" => (k_here; k_dflt (refine' gi_sym ?Nr ?mr ?dr ?vr ?_; (case Nr => k_asm); (case mr => k_mem); (case dr => assumption); (case vr => assumption); k_whole))
  k_with "call builtin:len" => (k_here; (with_reducible show wpAny _ _ (call (Value.builtin "len") [Value.ref _]) _ _ _); k_dflt (refine' kda_len (knd := PySem.intKind _ _) ?Nr ?mr ?dr ?lr ?zr ?_; (case Nr => k_asm); (case mr => k_mem); (case dr => assumption); (case lr => assumption); (case zr => first | assumption | omega); k_whole))
  k_with "compareOp In int ref" => (k_here; k_dflt (first
    | (refine' kda_in (knd := PySem.intKind _ _) ?Nr ?mr ?dr ?lr (intKind_is _ _ _ _) true ?br ?_; (case Nr => k_asm); (case mr => k_mem); (case dr => assumption); (case lr => assumption); (case br => exact Option.isSome_iff_exists.mpr ⟨_, by assumption⟩); k_whole)
    | (refine' kda_in (knd := PySem.intKind _ _) ?Nr ?mr ?dr ?lr (intKind_is _ _ _ _) false ?br ?_; (case Nr => k_asm); (case mr => k_mem); (case dr => assumption); (case lr => assumption); (case br => exact Option.isSome_eq_false_iff.mpr (Option.isNone_iff_eq_none.mpr (by assumption))); k_whole)))
  k_with "setItem ref int" => (k_here; k_dflt (refine' kda_set (knd := PySem.intKind _ _) ?Fr ?Nr ?Ur ?dr (intKind_is _ _ _ _) ?zr ?_; (case Fr => k_asm); (case Nr => k_asm); (case Ur => (first | exact updF_nd 0 (by assumption) rfl | exact updF_nd 1 (by assumption) rfl | exact updF_nd 2 (by assumption) rfl | exact updF_nd 3 (by assumption) rfl | exact updF_nd 4 (by assumption) rfl | exact updF_nd 5 (by assumption) rfl | k_updF)); (case dr => assumption); (case zr => assumption)); intro h'r o'r F'r N'r hd'r; (try dsimp only at N'r); (let n7r := newsOf N'r); (have N7r : News _ _ _ n7r := N'r))
  k_with "getMethod ref" => (k_here; (with_reducible show wpAny _ _ (getMethod (Value.ref _) (Str.ofString "pop") _) _ _ _); k_dflt (refine' kob_method (knd := PySem.intKind _ _) PySem.F.slot_dict_pop PySem.F.type_dict_pop ?Nr ?mr ?dr ?_; (case Nr => k_asm); (case mr => k_mem); (case dr => assumption)))
  k_with "getMethod ref" => (k_here; (with_reducible show wpAny _ _ (getMethod (Value.ref _) (Str.ofString "get") _) _ _ _); k_dflt (refine' kdg_method (knd := PySem.intKind _ _) ?Nr ?mr ?dr ?_; (case Nr => k_asm); (case mr => k_mem); (case dr => assumption)))
  k_with "call builtin:dict.pop" => (k_here; (with_reducible show wpAny _ _ (call (Value.builtin "dict.pop") [Value.ref _, Value.int _ _]) _ _ _); k_dflt (refine' kob_pop (knd := PySem.intKind _ _) (more := []) ?Fr ?Nr ?Ur ?dr (intKind_is _ _ _ _) (.inl rfl) (by rfl) (PySem.F.args_dict_pop_2 _ _) ?lr ?zr ?_; (case Fr => k_asm); (case Nr => k_asm); (case Ur => (first | exact updF_nd 0 (by assumption) rfl | exact updF_nd 1 (by assumption) rfl | exact updF_nd 2 (by assumption) rfl | exact updF_nd 3 (by assumption) rfl | exact updF_nd 4 (by assumption) rfl | exact updF_nd 5 (by assumption) rfl | k_updF)); (case dr => assumption); (case lr => assumption); (case zr => assumption)); intro h'r o'r F'r N'r hd'r; (try dsimp only at N'r); (let n7r := newsOf N'r); (have N7r : News _ _ _ n7r := N'r))
  k_with "call builtin:dict.get" => (k_here; (with_reducible show wpAny _ _ (call (Value.builtin "dict.get") [Value.ref _, Value.int _ _, _]) _ _ _); k_dflt (refine' kdg_get2 (knd := PySem.intKind _ _) ?Nr ?mr ?dr ?lr (intKind_is _ _ _ _) _ ?vr ?_; (case Nr => k_asm); (case mr => k_mem); (case dr => assumption); (case lr => assumption); (case vr => assumption)); (try dsimp only [Option.getD]))
  k_with "enter" => (refine' code_def ?k1r ?k2r ?k3r ?k4r ?k5r ?kAr ?kFr ?kKr ?k6r ?k7r ?k8r ?k9r ?kBr ?_ ?c2r ?c3r ?c4r ?c5r; (case kAr => exact rfl); (case kFr => exact rfl); (case kKr => first | exact rfl | assumption); (case k1r => k_asm); (case k2r => k_asm); (case k3r => k_asm); (case k4r => k_asm); (case k5r => k_asm); (case k6r => k_is); (case k7r => k_is); (case k8r => (first | exact room9 0 (by assumption) rfl | exact room9 1 (by assumption) rfl | exact room9 2 (by assumption) rfl | exact room9 3 (by assumption) rfl | exact room9 4 (by assumption) rfl | exact room9 5 (by assumption) rfl | exact room9 6 (by assumption) rfl | exact room9 7 (by assumption) rfl | exact room9 8 (by assumption) rfl | ktr_room)); (case k9r => first | exact BindsTo.of_eq rfl | exact binds_K (by k_in) rfl (by k_is) rfl rfl rfl); (case c5r => decide); (case kBr => exact locs rfl); (case c2r => exact rfl); (case c3r => exact rfl); (case c4r => exact rfl); k_whole; (refine (?_ : let m9 := _; ∀ g L h, Fr _ _ g _ → Fr _ _ h m9 → _)); intro m9r g'r L'r h'r FG'r F'r N'r B'r X'r T'r; (try dsimp only); (try k_fold); (refine (?_ : let e9 := _; let A9 := _; wpAny _ A9 (execs _ e9) _ _ _)); intro e9r A9r; (try ((with_reducible refine gen_tk ?_); intro tk9r)))
  k_with "eval Dict nil nil" => (k_here; k_dflt (refine' newDict_K ?k1r ?k2r (TopRead.nolimit (by k_asm)) ?_; (case k1r => k_asm); (case k2r => k_asm); k_whole); intro d'r h'r o'r F'r N'r l1r lo'r hs'r fs'r hi'r fi'r; k_dflt (have hn8r := nd_new l1r (by assumption)); (let n7r := newsOf N'r); (have N7r : News _ _ _ n7r := N'r); (try k_sweep))
  k_with "callWith ref" => (k_here; k_dflt (refine' callWith_F ?k1r ?_; (case k1r => exact FnAt.of (by k_asm) (by k_mem)); k_whole))
  trivial
section
variable {w : World} {p : Program} {loose : List Str} {mean : ExcName → Option Value} {mg mb : Str → Option Value} {dp un : Nat} {gd : Option (List Code)} {fs : Option (List Env)} {base g : Heap} {os : List Env} {L : Addr} {m : Str → Option Value} {s : Shared} {Q : Flow → Shared → Prop} {E : Value → Shared → Prop} {cdv : Value}
variable {ca cd : Addr} {v v1 v2 v3 : Value} {h1 h2 h3 h4 : Int} {t1 t2 t3 t4 : Tok} {z y : Int} {zt : Tok}
noncomputable abbrev cacheE (h1 h2 h3 h4 : Int) (t1 t2 t3 t4 : Tok) (v1 v2 v3 v4 : Value) : List DictEntry :=
  [⟨h1, .str (Str.ofString "_cache") t1, v1⟩, ⟨h2, .str (Str.ofString "_most_recently_used") t2, v2⟩, ⟨h3, .str (Str.ofString "_least_recently_used") t3, v3⟩, ⟨h4, .str (Str.ofString "_max_cache") t4, v4⟩]
set_option maxRecDepth 100000 in
set_option maxHeartbeats 4000000 in
theorem upd_ifC {led : List (Addr × Obj)} (i : Nat) (B : Below { handled := none, depth := dp, frames := fs, guards := gd, units := un } base os g) (F : Fr g L s.heap m) (X : (hd.heap_39 w.params).In g) (T : Top p loose mean mg mb g)
  (hs : m (Str.ofString "self") = some (.ref ca)) (ha : m (Str.ofString "after_cleanup_count") = some v) (hv : KeepV v y)
  (N : News g L s.heap led) (hat : atN led i = some (cd, dictOf (cacheE h1 h2 h3 h4 t1 t2 t3 t4 v1 v2 v3 (.int z zt)) 4)) (hci : (ca, instObj 175 cd) ∈ led) (hn : (Ads led).Nodup)
  (ret : ∀ (h' : Heap) (tk : Nat) (h5 : Int) (t5 t : Tok), Fr g L h' m → News g L h' (setN (cd, dictOf (cacheE h1 h2 h3 h4 t1 t2 t3 t4 v1 v2 v3 (.int z zt) ++ [⟨h5, .str (Str.ofString "_after_cleanup_count") t5, .int (stayOf z y) t⟩]) 5) led i) → Q .next { s with heap := h', toks := tk }) :
  wpAny (model PySem.Challenge.rw_iy0004_01.row.prog w) (({ handled := none, depth := dp, frames := fs, guards := gd, units := un } : Around).deeper (envOf (Str.ofString "LRUCache._update_max_cache") (mScope 16) L 172 cdv)) (exec updIf (envOf (Str.ofString "LRUCache._update_max_cache") (mScope 16) L 172 cdv)) Q E s := by
  revert X; k_fill; intro X
  have es : mScope 16 = Scope.mk _ _ _ _ _ := rfl
  have eb : updIf = Stmt.If _ _ _ _ := rfl
  rw [es, eb]
  clear es eb
  have em := two_map hs ha
  rw [em] at F ret
  clear em hs ha
  have hm := mem_at i hat
  rcases hv with ⟨hy, rfl⟩ | ⟨hy, t0, rfl⟩
  · have e : stayOf z y = (z * 8).fdiv 10 := if_pos hy
    rw [e] at ret
    k_steps
    all_goals (first | exact ret _ _ _ _ _ (by assumption) (by assumption) | w_report)
  · have e : stayOf z y = if z < y then z else y := if_neg hy
    rw [e] at ret
    clear e
    replace hy : 0 ≤ y := Int.not_lt.mp hy
    k_steps
    all_goals (first | exact ret _ _ _ _ _ (by assumption) (by assumption) | w_report)
end
section
variable {w : World} {p : Program} {loose : List Str} {mean : ExcName → Option Value} {mg mb : Str → Option Value}
  {dp un : Nat} {gd : Option (List Code)} {cn : Str} {cs : Scope} {a : Addr} {ccd : Value} {cl : List (Str × Addr)} {outer : List Env} {A₀ : Around} {base h₀ : Heap} {L : Addr} {m : Str → Option Value} {s : Shared} {Q E : Value → Shared → Prop}
  (B : Below A₀ base outer h₀) (F : Fr h₀ L s.heap m) (X : (hd.heap_39 w.params).In h₀) (T : Top p loose mean mg mb h₀) (hk : cs.kind = .function) (hdp : dp + 8 < recursionLimit)
include B F X T hk hdp
theorem rules_LCtor1 : True := by
  k_with "call ref" => (k_here; k_dflt (refine wpAny_call ?_; refine' code_def ?k1r ?k2r ?k3r ?k4r ?k5r ?kAr ?kFr ?kKr ?k6r ?k7r ?k8r ?k9r ?kBr ?_ ?c2r ?c3r ?c4r ?c5r; (case kAr => exact rfl); (case kFr => exact rfl); (case kKr => first | exact rfl | assumption); (case k1r => k_asm); (case k2r => k_asm); (case k3r => k_asm); (case k4r => k_asm); (case k5r => k_asm); (case k6r => k_is); (case k7r => k_is); (case k8r => (first | exact room9 0 (by assumption) rfl | exact room9 1 (by assumption) rfl | exact room9 2 (by assumption) rfl | exact room9 3 (by assumption) rfl | exact room9 4 (by assumption) rfl | exact room9 5 (by assumption) rfl | exact room9 6 (by assumption) rfl | exact room9 7 (by assumption) rfl | exact room9 8 (by assumption) rfl | ktr_room)); (case k9r => first | exact BindsTo.of_eq rfl | exact binds_K (by k_in) rfl (by k_is) rfl rfl rfl); (case c5r => decide); (case kBr => exact locs rfl); (case c2r => exact rfl); (case c3r => exact rfl); (case c4r => exact rfl); k_whole; (refine (?_ : let m9 := _; ∀ g L h, Fr _ _ g _ → Fr _ _ h m9 → _)); intro m9r g'r L'r h'r FG'r F'r N'r B'r X'r T'r; (try dsimp only); (try k_fold); (refine (?_ : let e9 := _; let A9 := _; wpAny _ A9 (execs _ e9) _ _ _)); intro e9r A9r; (try ((with_reducible refine gen_tk ?_); intro tk9r))))
  k_with "call ref" => (k_here; k_dflt (refine' call_cls ?k1r ?k2r ?k3r ?k4r ?k5r ?k6r ?_; (case k1r => k_asm); (case k2r => k_asm); (case k3r => k_asm); (case k4r => k_is); (case k5r => k_is); (case k6r => k_is); k_whole; intro x'r d'r h'r F'r N'r l8r l7r; (let n7r := newsOf N'r); (have N7r : News _ _ _ n7r := N'r); k_dflt (have hn9r := nd_new2 l8r l7r hn); (try k_sweep); ktr_enter))
  k_with "exec If" => (k_here; k_dflt (refine' upd_ifC 2 ?b1r ?f1r ?x1r ?t1r ?s1r ?a1r ?v1r ?n1r ?e1r ?m1r ?o1r ?_; (case b1r => k_asm); (case f1r => k_asm); (case x1r => k_asm); (case t1r => k_asm); (case s1r => rfl); (case a1r => rfl); (case v1r => assumption); (case n1r => k_asm); (case e1r => exact rfl); (case m1r => k_mem); (case o1r => assumption)); intro h9r tk9r h8r t8r t9r F9r N9r; (let n7r := newsOf N9r); (have N7r : News _ _ _ n7r := N9r); (try dsimp only); (try k_fold))
  k_with "WhlIf" => (refine WhlIf.no (decide_eq_false ?_) ?_; (· simp only [List.length_nil]; first | omega | (split <;> omega)))
  k_with "execs cons" => (k_here; (dsimp only); (try k_gentoks))
  trivial
variable {S : List (Addr × Obj)} {z y : Int} {tz : Tok} {v : Value}
/-- a cache as the constructor gives it back -/
noncomputable abbrev Made (w : World) (h₀ : Heap) (L : Addr) (m : Str → Option Value) (s : Shared) (Q : Value → Shared → Prop) (S : List (Addr × Obj)) (z y : Int) : Prop :=
  ∀ (h' : Heap) (tk : Nat) (dc ca cd : Addr) (oc : Obj) (xc : N6) (zt yt : Tok), (dc == sysModules) = false → oc.IsDictOf (intKind PySem.Challenge.rw_iy0004_01.row.prog w) [] →
    (∀ q ∈ S, q.1 < cd) → cd < ca → ca < dc → Fr h₀ L h' m → News h₀ L h' ((dc, oc) :: (ca, instObj 175 cd) :: (cd, cacheD xc (.ref dc) .none .none (.int z zt) (.int y yt)) :: S) → Q (.ref ca) { s with heap := h', toks := tk }
set_option maxRecDepth 100000 in
set_option maxHeartbeats 4000000 in
theorem mk_any (N : News h₀ L s.heap S) (hn : (Ads S).Nodup) (hz : 1 ≤ z) (hv : KeepV v y) (ret : Made w h₀ L m s Q S z (stayOf z y)) :
  wpAny (model PySem.Challenge.rw_iy0004_01.row.prog w) (ktrTop dp un gd cn cs L a ccd cl outer) (call (.ref 175) [.int z tz, v]) Q E s := by
  revert X; k_fill; intro X
  have hs0 := (stayOf_bounds (y := y) hz).1
  k_steps
  (rename News _ _ _ _ => N9); (rename Fr _ _ _ _ => F9); (rename Obj.IsDictOf (intKind _ _) _ _ => ho9)
  exact ret _ _ _ _ _ _ ⟨⟨_, _⟩, ⟨_, _⟩, ⟨_, _⟩, ⟨_, _⟩, ⟨_, _⟩, ⟨0, 0⟩⟩ _ _ (by assumption) ho9 (by assumption) (by assumption) (l1r _ (.head _)) F9 N9
end
end
section
-- LProl
open PySem PySem.W PySem.Calls PyProof.Rows
theorem rules_LProl0 : True := by
  k_with_none
  k_with "ne" => (refine neN ?_; (try dsimp only); first | assumption | (apply Ne.symm; assumption))
  k_with "tone" => (refine neN ?_; (try dsimp only); first | assumption | (apply Ne.symm; assumption))
  k_with "mem" => (first | assumption | exact mem_at 0 rfl | exact mem_at 1 rfl | exact mem_at 2 rfl | exact mem_at 3 rfl | exact mem_at 4 rfl | exact mem_at 5 rfl | exact mem_dr 1 (by assumption) | exact mem_dr 2 (by assumption) | exact mem_dr 3 (by assumption) | exact mem_dr 4 (by assumption) | exact mem_dr 5 (by assumption))
  k_with "getAttr ref" => (k_here; k_dflt ((first | (with_reducible refine' gN_p ?F1r ?X1r ?N1r ?h1r ?h2r ?v1r ?_) | (with_reducible refine' gN_nx ?F1r ?X1r ?N1r ?h1r ?h2r ?v1r ?_) | (with_reducible refine' gN_k ?F1r ?X1r ?N1r ?h1r ?h2r ?v1r ?_) | (with_reducible refine' gN_v ?F1r ?X1r ?N1r ?h1r ?h2r ?v1r ?_) | (with_reducible refine' gN_c ?F1r ?X1r ?N1r ?h1r ?h2r ?v1r ?_) | (with_reducible refine' gC_c ?F1r ?X1r ?N1r ?h1r ?h2r ?v1r ?_) | (with_reducible refine' gC_r ?F1r ?X1r ?N1r ?h1r ?h2r ?v1r ?_) | (with_reducible refine' gC_l ?F1r ?X1r ?N1r ?h1r ?h2r ?v1r ?_) | (with_reducible refine' gC_z ?F1r ?X1r ?N1r ?h1r ?h2r ?v1r ?_) | (with_reducible refine' gC_y ?F1r ?X1r ?N1r ?h1r ?h2r ?v1r ?_)); (case F1r => k_asm); (case X1r => k_asm); (case N1r => k_asm); (case h1r => k_mem); (case h2r => k_mem); (case v1r => k_handed); k_whole))
  k_with "setAttr ref" => (k_here; k_dflt (first | ((first | (with_reducible refine' sN_p ?F1r ?X1r ?N1r ?h1r ?h2r ?U1r ?_) | (with_reducible refine' sN_nx ?F1r ?X1r ?N1r ?h1r ?h2r ?U1r ?_) | (with_reducible refine' sN_v ?F1r ?X1r ?N1r ?h1r ?h2r ?U1r ?_) | (with_reducible refine' sN_c ?F1r ?X1r ?N1r ?h1r ?h2r ?U1r ?_) | (with_reducible refine' sC_r ?F1r ?X1r ?N1r ?h1r ?h2r ?U1r ?_) | (with_reducible refine' sC_l ?F1r ?X1r ?N1r ?h1r ?h2r ?U1r ?_) | (with_reducible refine' sC_z ?F1r ?X1r ?N1r ?h1r ?h2r ?U1r ?_) | (with_reducible refine' sC_y ?F1r ?X1r ?N1r ?h1r ?h2r ?U1r ?_)); (case F1r => k_asm); (case X1r => k_asm); (case N1r => k_asm); (case h1r => k_mem); (case h2r => k_mem); (case U1r => (first | exact upd_nd 0 (by assumption) rfl | exact upd_nd 1 (by assumption) rfl | exact upd_nd 2 (by assumption) rfl | exact upd_nd 3 (by assumption) rfl | exact upd_nd 4 (by assumption) rfl | exact upd_nd 5 (by assumption) rfl | exact upd_nd _ (by assumption) (by assumption) | k_upd)); k_whole) | (refine' set_dict ?k1r ?k2r ?k3r ?k4r ?k5r ?k6r ?k7r ?k8r ?k9r ?k10r ?k11r ?k12r ?k13r ?_; (case k1r => k_asm); (case k2r => k_asm); (case k3r => k_asm); (case k4r => k_inst); (case k5r => exact rfl); (case k6r => k_is); (case k7r => k_is); (case k8r => k_is); (case k9r => k_is); (case k10r => k_get); (case k11r => k_put); (case k12r => (first | exact upd_nd 0 (by assumption) rfl | exact upd_nd 1 (by assumption) rfl | exact upd_nd 2 (by assumption) rfl | exact upd_nd 3 (by assumption) rfl | exact upd_nd 4 (by assumption) rfl | exact upd_nd 5 (by assumption) rfl | exact upd_nd _ (by assumption) (by assumption) | k_upd)); (case k13r => exact Nat.le_of_ble_eq_true rfl); k_whole)); (refine (?_ : let l9 := _; ∀ h', Fr _ _ h' _ → News _ _ h' l9 → _)); intro l9r h'r F'r N'r; (try k_sweep))
  k_with "subscriptTail" => (k_here; (with_reducible show wpAny _ _ (subscriptTail _ _ (Value.ref _) (Value.int _ _)) _ _ _); k_dflt (refine' kda_item (knd := PySem.intKind _ _) ?Nr ?mr ?dr (intKind_is _ _ _ _) ?vr ?_; (case Nr => k_asm); (case mr => k_mem); (case dr => assumption); (case vr => assumption)))
  k_with "getItem ref int" => (k_here; k_dflt (refine' gi_sym ?Nr ?mr ?dr ?vr ?_; (case Nr => k_asm); (case mr => k_mem); (case dr => assumption); (case vr => assumption); k_whole))
  k_with "call builtin:len" => (k_here; (with_reducible show wpAny _ _ (call (Value.builtin "len") [Value.ref _]) _ _ _); k_dflt (refine' kda_len (knd := PySem.intKind _ _) ?Nr ?mr ?dr ?lr ?zr ?_; (case Nr => k_asm); (case mr => k_mem); (case dr => assumption); (case lr => assumption); (case zr => first | assumption | omega); k_whole))
  k_with "compareOp In int ref" => (k_here; k_dflt (first
    | (refine' kda_in (knd := PySem.intKind _ _) ?Nr ?mr ?dr ?lr (intKind_is _ _ _ _) true ?br ?_; (case Nr => k_asm); (case mr => k_mem); (case dr => assumption); (case lr => assumption); (case br => exact Option.isSome_iff_exists.mpr ⟨_, by assumption⟩); k_whole)
    | (refine' kda_in (knd := PySem.intKind _ _) ?Nr ?mr ?dr ?lr (intKind_is _ _ _ _) false ?br ?_; (case Nr => k_asm); (case mr => k_mem); (case dr => assumption); (case lr => assumption); (case br => exact Option.isSome_eq_false_iff.mpr (Option.isNone_iff_eq_none.mpr (by assumption))); k_whole)))
  k_with "setItem ref int" => (k_here; k_dflt (refine' kda_set (knd := PySem.intKind _ _) ?Fr ?Nr ?Ur ?dr (intKind_is _ _ _ _) ?zr ?_; (case Fr => k_asm); (case Nr => k_asm); (case Ur => (first | exact updF_nd 0 (by assumption) rfl | exact updF_nd 1 (by assumption) rfl | exact updF_nd 2 (by assumption) rfl | exact updF_nd 3 (by assumption) rfl | exact updF_nd 4 (by assumption) rfl | exact updF_nd 5 (by assumption) rfl | k_updF)); (case dr => assumption); (case zr => assumption)); intro h'r o'r F'r N'r hd'r; (try dsimp only at N'r); (let n7r := newsOf N'r); (have N7r : News _ _ _ n7r := N'r))
  k_with "getMethod ref" => (k_here; (with_reducible show wpAny _ _ (getMethod (Value.ref _) (Str.ofString "pop") _) _ _ _); k_dflt (refine' kob_method (knd := PySem.intKind _ _) PySem.F.slot_dict_pop PySem.F.type_dict_pop ?Nr ?mr ?dr ?_; (case Nr => k_asm); (case mr => k_mem); (case dr => assumption)))
  k_with "getMethod ref" => (k_here; (with_reducible show wpAny _ _ (getMethod (Value.ref _) (Str.ofString "get") _) _ _ _); k_dflt (refine' kdg_method (knd := PySem.intKind _ _) ?Nr ?mr ?dr ?_; (case Nr => k_asm); (case mr => k_mem); (case dr => assumption)))
  k_with "call builtin:dict.pop" => (k_here; (with_reducible show wpAny _ _ (call (Value.builtin "dict.pop") [Value.ref _, Value.int _ _]) _ _ _); k_dflt (refine' kob_pop (knd := PySem.intKind _ _) (more := []) ?Fr ?Nr ?Ur ?dr (intKind_is _ _ _ _) (.inl rfl) (by rfl) (PySem.F.args_dict_pop_2 _ _) ?lr ?zr ?_; (case Fr => k_asm); (case Nr => k_asm); (case Ur => (first | exact updF_nd 0 (by assumption) rfl | exact updF_nd 1 (by assumption) rfl | exact updF_nd 2 (by assumption) rfl | exact updF_nd 3 (by assumption) rfl | exact updF_nd 4 (by assumption) rfl | exact updF_nd 5 (by assumption) rfl | k_updF)); (case dr => assumption); (case lr => assumption); (case zr => assumption)); intro h'r o'r F'r N'r hd'r; (try dsimp only at N'r); (let n7r := newsOf N'r); (have N7r : News _ _ _ n7r := N'r))
  k_with "call builtin:dict.get" => (k_here; (with_reducible show wpAny _ _ (call (Value.builtin "dict.get") [Value.ref _, Value.int _ _, _]) _ _ _); k_dflt (refine' kdg_get2 (knd := PySem.intKind _ _) ?Nr ?mr ?dr ?lr (intKind_is _ _ _ _) _ ?vr ?_; (case Nr => k_asm); (case mr => k_mem); (case dr => assumption); (case lr => assumption); (case vr => assumption)); (try dsimp only [Option.getD]))
  k_with "enter" => (refine' code_def ?k1r ?k2r ?k3r ?k4r ?k5r ?kAr ?kFr ?kKr ?k6r ?k7r ?k8r ?k9r ?kBr ?_ ?c2r ?c3r ?c4r ?c5r; (case kAr => exact rfl); (case kFr => exact rfl); (case kKr => first | exact rfl | assumption); (case k1r => k_asm); (case k2r => k_asm); (case k3r => k_asm); (case k4r => k_asm); (case k5r => k_asm); (case k6r => k_is); (case k7r => k_is); (case k8r => (first | exact room9 0 (by assumption) rfl | exact room9 1 (by assumption) rfl | exact room9 2 (by assumption) rfl | exact room9 3 (by assumption) rfl | exact room9 4 (by assumption) rfl | exact room9 5 (by assumption) rfl | exact room9 6 (by assumption) rfl | exact room9 7 (by assumption) rfl | exact room9 8 (by assumption) rfl | ktr_room)); (case k9r => first | exact BindsTo.of_eq rfl | exact binds_K (by k_in) rfl (by k_is) rfl rfl rfl); (case c5r => decide); (case kBr => exact locs rfl); (case c2r => exact rfl); (case c3r => exact rfl); (case c4r => exact rfl); k_whole; (refine (?_ : let m9 := _; ∀ g L h, Fr _ _ g _ → Fr _ _ h m9 → _)); intro m9r g'r L'r h'r FG'r F'r N'r B'r X'r T'r; (try dsimp only); (try k_fold); (refine (?_ : let e9 := _; let A9 := _; wpAny _ A9 (execs _ e9) _ _ _)); intro e9r A9r; (try ((with_reducible refine gen_tk ?_); intro tk9r)))
  k_with "callWith ref" => (k_here; k_dflt (refine' callWith_F ?k1r ?_; (case k1r => exact FnAt.of (by k_asm) (by k_mem)); k_whole))
  trivial
set_option genInjectivity false in
set_option genSizeOf false in
/-- what the law has made ahead of its first number -/
structure Pro where
  L : Addr
  sl : Addr
  fU : Addr
  cU : Addr
  fD : Addr
  cD : Addr
  fG : Addr
  cG : Addr
  hl : Addr
  ll : Addr
  dl : Addr
  ol : Addr
  ocU : Obj
  ocD : Obj
  ocG : Obj
  oh : Obj
  oO : Obj
  oLn : Obj
  oH : Obj
  oD : Obj
  tb : Obj
  qU : Str
  qD : Str
  qG : Str
  docU : Value
  pmU : Value
  ctU : Value
  docD : Value
  pmD : Value
  ctD : Value
  docG : Value
  pmG : Value
  ctG : Value
noncomputable abbrev Pro.oU (y : Pro) : Obj := fn3 "use" y.qU 6 [(Str.ofString "line", y.L + 1 + 1 + 1)] y.docU y.pmU y.cU y.ctU
noncomputable abbrev Pro.oDr (y : Pro) : Obj := fn3 "drop" y.qD 5 [(Str.ofString "line", y.L + 1 + 1 + 1), (Str.ofString "held", y.L + 1 + 1), (Str.ofString "due", y.L + 1)] y.docD y.pmD y.cD y.ctD
noncomputable abbrev Pro.oG (y : Pro) : Obj := fn3 "gone" y.qG 4 [(Str.ofString "out", y.L + 1 + 1 + 1 + 1)] y.docG y.pmG y.cG y.ctG
noncomputable abbrev Pro.led (y : Pro) : List (Addr × Obj) := [(y.fU, y.oU), (y.cU, y.ocU), (y.fD, y.oDr), (y.cD, y.ocD), (y.fG, y.oG), (y.cG, y.ocG), (y.hl, y.oh), (y.ll, listOf #[] 0), (y.dl, listOf #[] 0), (y.ol, listOf #[] 0),
  (y.L + 1 + 1 + 1 + 1, y.oO), (y.L + 1 + 1 + 1, y.oLn), (y.L + 1 + 1, y.oH), (y.L + 1, y.oD), (181, y.tb)]
noncomputable abbrev proMap (y : Pro) (m : Str → Option Value) : Str → Option Value := fun n =>
  if n = Str.ofString "use" then some (.ref y.fU) else if n = Str.ofString "drop" then some (.ref y.fD) else if n = Str.ofString "gone" then some (.ref y.fG) else if n = Str.ofString "script" then some (.ref y.sl) else m n
noncomputable abbrev forMap (y : Pro) (size stay keep : Int) (ca : Addr) (zt yt kt : Tok) (m : Str → Option Value) : Str → Option Value := fun n =>
  if n = Str.ofString "cache" then some (.ref ca) else if n = Str.ofString "stay" then some (.int stay yt) else if n = Str.ofString "keep" then some (.int keep kt) else if n = Str.ofString "size" then some (.int size zt) else proMap y m n
section
variable {w : World} {p : Program} {loose : List Str} {mean : ExcName → Option Value} {mg mb : Str → Option Value} {g : Heap} {y : Pro} {fa : Addr} {s : Shared} {Q : Flow → Shared → Prop} {E : Value → Shared → Prop} {m : Str → Option Value}
  (B : Below callerA g [] g) (X : (hd.heap_39 w.params).In g) (T : Top p loose mean mg mb g)
include B X T
theorem rules_LProl1 : True := by
  k_with "call ref" => (k_here; (with_reducible show wpAny _ _ (call (Value.ref 175) [Value.int _ _, _] _) _ _ _); k_dflt (refine' mk_any ?g1r ?g2r ?g3r ?g4r rfl ?g5r ?g6r hn (And.left ?g7r) ?g8r ?_; (case g1r => k_asm); (case g2r => k_asm); (case g3r => k_asm); (case g4r => k_asm); (case g5r => (first | exact room9 0 (by assumption) rfl | exact room9 1 (by assumption) rfl | exact room9 2 (by assumption) rfl | exact room9 3 (by assumption) rfl | exact room9 4 (by assumption) rfl | exact room9 5 (by assumption) rfl | exact room9 6 (by assumption) rfl | exact room9 7 (by assumption) rfl | exact room9 8 (by assumption) rfl | ktr_room)); (case g6r => k_asm); (case g7r => assumption); (case g8r => assumption)); intro h9r tk9r dc9r ca9r cd9r oc9r xc9r zt9r yt9r e9r ho9r l1r l2r l3r F9r N9r; (try dsimp only); (try k_fold))
  k_with "eval IfExp" => (k_here; (with_reducible show wpAny _ _ (eval (Expr.IfExp _ (Expr.BinOp _ _ _ _) _ _) _) _ _ _); (fail_if_success (with_reducible show wpAny _ _ _ (MidN _ _ _ _ _ _) _ _)); k_dflt (refine' mid_N (stayOf z9r (y9r - 1)) ?f1r ?n1r ?_ ?_; (case f1r => k_asm); (case n1r => k_asm)); rotate_left; intro h9r tk9r t9r F9r N9r; (try dsimp only))
  k_with "eval IfExp" => (k_here; (with_reducible show wpAny _ _ (eval (Expr.IfExp _ (Expr.Constant _ _ _) _ _) _) _ _ _); (fail_if_success (with_reducible show wpAny _ _ _ (MidK _ _) _ _)); (refine mid_K (y9r - 1) ?_ ?_); rotate_left; intro v9r tk9r hv9r; (try dsimp only))
  k_with "eval IfExp" => (k_here; (with_reducible show wpAny _ _ (eval (Expr.IfExp _ _ (Expr.Constant (Const.int 3) _ _) _) _) _ _ _); (fail_if_success (with_reducible show wpAny _ _ _ (MidP _ _ _ _ _ _) _ _)); k_dflt (refine' mid_P (fun x => 1 ≤ x ∧ x ≤ 5) ?f1r ?n1r ?_ ?_; (case f1r => k_asm); (case n1r => k_asm)); rotate_left; intro h9r tk9r t9r z9r hz9r F9r N9r; (try dsimp only))
  k_with "eval IfExp" => (k_here; (with_reducible show wpAny _ _ (eval (Expr.IfExp _ _ (Expr.Constant (Const.int 0) _ _) _) _) _ _ _); (fail_if_success (with_reducible show wpAny _ _ _ (MidP _ _ _ _ _ _) _ _)); k_dflt (refine' mid_P (fun x => 0 ≤ x) ?f1r ?n1r ?_ ?_; (case f1r => k_asm); (case n1r => k_asm)); rotate_left; intro h9r tk9r t9r y9r hy9r F9r N9r; (try dsimp only))
  k_with "execs cons" => (k_here; (dsimp only); (try k_gentoks))
  k_with "execs cons" => (k_here; (with_reducible show wpAny _ _ (execs (lb 11 :: _) _) _ _ _); k_dflt (refine halt ?_))
  trivial
set_option maxRecDepth 100000 in
set_option maxHeartbeats 1000000 in
theorem prol {vs : List Value} {ns : List Int} {S : List (Addr × Obj)} (F : Fr g y.L s.heap (proMap y m)) (N : News g y.L s.heap S) (hn : (Ads S).Nodup) (hL : g.IsList y.sl vs.toArray) (hI : IntsAre vs ns) (h63 : ns.length ≤ 63)
  (ret : ∀ (h' : Heap) (tk : Nat) (dc ca cd : Addr) (oc : Obj) (xc : N6) (size stay keep : Int) (zt yt kt zt2 yt2 : Tok), (1 ≤ size ∧ size ≤ 5) → (0 ≤ stay ∧ stay ≤ size) → (dc == sysModules) = false → oc.IsDictOf (intKind PySem.Challenge.rw_iy0004_01.row.prog w) [] →
    (∀ q ∈ S, q.1 < cd) → cd < ca → ca < dc → Fr g y.L h' (forMap y size stay keep ca zt yt kt m) → News g y.L h' ((dc, oc) :: (ca, instObj 175 cd) :: (cd, cacheD xc (.ref dc) .none .none (.int size zt2) (.int stay yt2)) :: S) →
    wpAny (model PySem.Challenge.rw_iy0004_01.row.prog w) (callerA.deeper (envOfC (Str.ofString "law") lawScope y.L fa (.ref 183))) (execs [lb 11, lb 12, lb 13, lb 14] (envOfC (Str.ofString "law") lawScope y.L fa (.ref 183))) Q E { s with heap := h', toks := tk }) :
  wpAny (model PySem.Challenge.rw_iy0004_01.row.prog w) (callerA.deeper (envOfC (Str.ofString "law") lawScope y.L fa (.ref 183))) (execs [lb 7, lb 8, lb 9, lb 10, lb 11, lb 12, lb 13, lb 14] (envOfC (Str.ofString "law") lawScope y.L fa (.ref 183))) Q E s := by
  revert X; k_fill; intro X
  have es : lawScope = Scope.mk _ _ _ _ _ := rfl
  have e0 : lb 7 = Stmt.Assign _ _ _ := rfl
  have e1 : lb 8 = Stmt.Assign _ _ _ := rfl
  have e2 : lb 9 = Stmt.Assign _ _ _ := rfl
  have e3 : lb 10 = Stmt.Assign _ _ _ := rfl
  rw [es] at ret
  rw [es, e0, e1, e2, e3]
  clear es e0 e1 e2 e3
  have h5 : 0 ≤ (ns.getD (Int.toNat 0) 0).fmod 5 ∧ (ns.getD (Int.toNat 0) 0).fmod 5 < 5 := by rw [Int.fmod_eq_emod_of_nonneg _ (by decide)]; omega
  have h7 : 0 ≤ ((ns.getD (Int.toNat 0) 0).fdiv 5).fmod 7 ∧ ((ns.getD (Int.toNat 0) 0).fdiv 5).fmod 7 < 7 := by rw [Int.fmod_eq_emod_of_nonneg _ (by decide)]; omega
  k_steps
  all_goals first | exact MidN.neg (by assumption) (by assumption) (by assumption) | exact MidN.pos (by assumption) (by assumption) (by assumption) | exact MidK.neg (by assumption) | exact MidK.pos (by assumption) | exact MidP.intro (by first | decide | omega) (by assumption) (by assumption) | skip
  (rename News _ _ _ _ => N9); (rename Fr _ _ _ _ => F9); (rename Obj.IsDictOf (intKind _ _) _ _ => ho9)
  exact ret _ _ _ _ _ _ _ _ _ _ _ _ _ _ _ (by assumption) (stayOf_bounds (And.left (by assumption))) (by assumption) ho9 (by assumption) (by assumption) (by assumption) F9 N9
end
end
section
-- LRest
open PySem PySem.W PySem.Calls PyProof.Rows
theorem rules_LRest0 : True := by
  k_with_none
  k_with "ne" => (refine neN ?_; (try dsimp only); first | assumption | (apply Ne.symm; assumption))
  k_with "tone" => (refine neN ?_; (try dsimp only); first | assumption | (apply Ne.symm; assumption))
  k_with "mem" => assumption
  k_with "subscriptTail" => (k_here; (with_reducible show wpAny _ _ (subscriptTail _ _ (Value.ref _) (Value.int _ _)) _ _ _); k_dflt (refine' kda_item (knd := PySem.intKind _ _) ?Nr ?mr ?dr (intKind_is _ _ _ _) ?vr ?_; (case Nr => k_asm); (case mr => k_mem); (case dr => assumption); (case vr => assumption)))
  k_with "getItem ref int" => (k_here; k_dflt (refine' gi_sym ?Nr ?mr ?dr ?vr ?_; (case Nr => k_asm); (case mr => k_mem); (case dr => assumption); (case vr => assumption); k_whole))
  k_with "call builtin:len" => (k_here; (with_reducible show wpAny _ _ (call (Value.builtin "len") [Value.ref _]) _ _ _); k_dflt (refine' kda_len (knd := PySem.intKind _ _) ?Nr ?mr ?dr ?lr ?zr ?_; (case Nr => k_asm); (case mr => k_mem); (case dr => assumption); (case lr => assumption); (case zr => first | assumption | lia); k_whole))
  k_with "compareOp In int ref" => (k_here; k_dflt (first
    | (refine' kda_in (knd := PySem.intKind _ _) ?Nr ?mr ?dr ?lr (intKind_is _ _ _ _) true ?br ?_; (case Nr => k_asm); (case mr => k_mem); (case dr => assumption); (case lr => assumption); (case br => exact Option.isSome_iff_exists.mpr ⟨_, by assumption⟩); k_whole)
    | (refine' kda_in (knd := PySem.intKind _ _) ?Nr ?mr ?dr ?lr (intKind_is _ _ _ _) false ?br ?_; (case Nr => k_asm); (case mr => k_mem); (case dr => assumption); (case lr => assumption); (case br => exact Option.isSome_eq_false_iff.mpr (Option.isNone_iff_eq_none.mpr (by assumption))); k_whole)))
  k_with "setItem ref int" => (k_here; k_dflt (refine' kda_set (knd := PySem.intKind _ _) ?Fr ?Nr ?Ur ?dr (intKind_is _ _ _ _) ?zr ?_; (case Fr => k_asm); (case Nr => k_asm); (case Ur => k_updF); (case dr => assumption); (case zr => assumption)); intro h'r o'r F'r N'r hd'r; (try dsimp only at N'r))
  k_with "getMethod ref" => (k_here; (with_reducible show wpAny _ _ (getMethod (Value.ref _) (Str.ofString "pop") _) _ _ _); k_dflt (refine' kob_method (knd := PySem.intKind _ _) PySem.F.slot_dict_pop PySem.F.type_dict_pop ?Nr ?mr ?dr ?_; (case Nr => k_asm); (case mr => k_mem); (case dr => assumption)))
  k_with "getMethod ref" => (k_here; (with_reducible show wpAny _ _ (getMethod (Value.ref _) (Str.ofString "get") _) _ _ _); k_dflt (refine' kdg_method (knd := PySem.intKind _ _) ?Nr ?mr ?dr ?_; (case Nr => k_asm); (case mr => k_mem); (case dr => assumption)))
  k_with "call builtin:dict.pop" => (k_here; (with_reducible show wpAny _ _ (call (Value.builtin "dict.pop") [Value.ref _, Value.int _ _]) _ _ _); k_dflt (refine' kob_pop (knd := PySem.intKind _ _) (more := []) ?Fr ?Nr ?Ur ?dr (intKind_is _ _ _ _) (.inl rfl) (by rfl) (PySem.F.args_dict_pop_2 _ _) ?lr ?zr ?_; (case Fr => k_asm); (case Nr => k_asm); (case Ur => k_updF); (case dr => assumption); (case lr => assumption); (case zr => assumption)); intro h'r o'r F'r N'r hd'r; (try dsimp only at N'r))
  k_with "call builtin:dict.get" => (k_here; (with_reducible show wpAny _ _ (call (Value.builtin "dict.get") [Value.ref _, Value.int _ _, _]) _ _ _); k_dflt (refine' kdg_get2 (knd := PySem.intKind _ _) ?Nr ?mr ?dr ?lr (intKind_is _ _ _ _) _ ?vr ?_; (case Nr => k_asm); (case mr => k_mem); (case dr => assumption); (case lr => assumption); (case vr => assumption)); (try dsimp only [Option.getD]))
  k_with "enter" => (refine' code_def ?k1r ?k2r ?k3r ?k4r ?k5r ?kAr ?kFr ?kKr ?k6r ?k7r ?k8r ?k9r ?kBr ?_ ?c2r ?c3r ?c4r ?c5r; (case kAr => exact rfl); (case kFr => exact rfl); (case kKr => first | exact rfl | assumption); (case k1r => k_asm); (case k2r => k_asm); (case k3r => k_asm); (case k4r => k_asm); (case k5r => k_asm); (case k6r => k_is); (case k7r => k_is); (case k8r => ktr_room); (case k9r => first | exact BindsTo.of_eq rfl | exact binds_K (by k_in) rfl (by k_is) rfl rfl rfl); (case c5r => decide); (case kBr => exact locs rfl); (case c2r => exact rfl); (case c3r => exact rfl); (case c4r => exact rfl); k_whole; intro g'r L'r h'r FG'r F'r N'r B'r X'r T'r; (try dsimp only); (try k_fold))
  k_with "callWith ref" => (k_here; k_dflt (refine' callWith_F ?k1r ?_; (case k1r => exact FnAt.of (by k_asm) (by k_mem)); k_whole))
  trivial
noncomputable abbrev CodeOk (o : Obj) (q : Str) : Prop := ∃ (vs : Array Value) (t0 : Tok), o.data = .fields vs ∧ vs[1]? = some (.str q t0)
structure ProOk (w : World) (y : Pro) : Prop where
  vO : y.oO.data = .cell (some (.ref y.ol))
  vLn : y.oLn.data = .cell (some (.ref y.ll))
  vH : y.oH.data = .cell (some (.ref y.hl))
  vD : y.oD.data = .cell (some (.ref y.dl))
  kU : CodeOk y.ocU y.qU
  kD : CodeOk y.ocD y.qD
  kG : CodeOk y.ocG y.qG
  hoh : y.oh.IsDictOf (intKind PySem.Challenge.rw_iy0004_01.row.prog w) []
  hhl : (y.hl == sysModules) = false
  nd : (Ads y.led).Nodup
noncomputable abbrev Pro.fix (y : Pro) (ca cd dc : Addr) (xc : N6) : LawFix where
  c := { ga := y.fG, ol := y.ol, ca := ca, cd := cd, dc := dc, xc := xc, S₀ := [(y.fG, y.oG), (y.cG, y.ocG), (y.L + 1 + 1 + 1 + 1, y.oO)] }
  lc := { la := y.ll, da := y.dl, ha := y.hl }
  da := y.fD
  ua := y.fU
  Sd := [(y.fD, y.oDr), (y.cD, y.ocD), (y.L + 1 + 1 + 1, y.oLn), (y.L + 1 + 1, y.oH), (y.L + 1, y.oD)]
  Su := [(y.fU, y.oU), (y.cU, y.ocU), (y.L + 1 + 1 + 1, y.oLn)]
  L := y.L
  oout := y.oO
  oline := y.oLn
  oheld := y.oH
  odue := y.oD
noncomputable abbrev Pro.st (oc : Obj) (size stay : Int) (zt yt : Tok) : CSt := { line := [], oc := oc, kvs := [], os := [], nn := 0, size := size, zt := zt, stay := stay, yt := yt }
noncomputable abbrev Pro.lst (y : Pro) : LSt := { ents := [], oh := y.oh, hkvs := [], dues := [], ln := 0, dn := 0 }
noncomputable abbrev Pro.R (y : Pro) (ca cd : Addr) : List (Addr × Obj) := [(ca, instObj 175 cd), (y.fU, y.oU), (y.cU, y.ocU), (y.fD, y.oDr), (y.cD, y.ocD), (y.fG, y.oG), (y.cG, y.ocG),
  (y.L + 1 + 1 + 1 + 1, y.oO), (y.L + 1 + 1 + 1, y.oLn), (y.L + 1 + 1, y.oH), (y.L + 1, y.oD), (181, y.tb)]
noncomputable abbrev Pro.led2 (y : Pro) (dc ca cd : Addr) (oc : Obj) (xc : N6) (size stay : Int) (zt yt : Tok) : List (Addr × Obj) := (dc, oc) :: (ca, instObj 175 cd) :: (cd, cacheD xc (.ref dc) .none .none (.int size zt) (.int stay yt)) :: y.led
theorem pro_perm {y : Pro} {dc ca cd : Addr} {oc : Obj} {xc : N6} {size stay : Int} {zt yt : Tok} : ∀ z, z ∈ LedC (y.fix ca cd dc xc) (Pro.st oc size stay zt yt) y.lst (y.R ca cd) → z ∈ y.led2 dc ca cd oc xc size stay zt yt := by
  exact in_idx (181, y.tb) (y.led2 dc ca cd oc xc size stay zt yt) [12, 2, 0, 10, 11, 9, 1, 3, 4, 5, 6, 7, 8, 13, 14, 15, 16, 17] 18 rfl (by decide)
theorem pro_inv {w : World} {y : Pro} {dc ca cd : Addr} {oc : Obj} {xc : N6} {size stay : Int} {zt yt : Tok} (O : ProOk w y) (hz : 1 ≤ size ∧ size ≤ 5) (hy : 0 ≤ stay ∧ stay ≤ size) (hdc : (dc == sysModules) = false) (hoc : oc.IsDictOf (intKind PySem.Challenge.rw_iy0004_01.row.prog w) [])
    (h1 : ∀ q ∈ y.led, q.1 < cd) (h2 : cd < ca) (h3 : ca < dc) : Inv w (y.fix ca cd dc xc) (Pro.st oc size stay zt yt) y.lst (y.R ca cd) 0 := by
  have hR : ∀ z ∈ y.R ca cd, z ∈ Ldyn (y.fix ca cd dc xc).lc y.lst ++ y.R ca cd := fun z hz => List.mem_append_right _ hz
  have hnd : ((y.fix ca cd dc xc).c.ol :: (y.fix ca cd dc xc).c.cd :: (y.fix ca cd dc xc).c.dc :: ((Pro.st oc size stay zt yt).line.map Node.d ++ Ads (Ldyn (y.fix ca cd dc xc).lc y.lst ++ y.R ca cd))).Nodup := by
    have n1 : (cd :: Ads y.led).Nodup := List.nodup_cons.mpr ⟨fun hm => absurd (lt_ads h1 _ hm) (Nat.lt_irrefl _), O.nd⟩
    have n2 : (ca :: cd :: Ads y.led).Nodup := List.nodup_cons.mpr ⟨fun hm => by
      rcases List.mem_cons.mp hm with e | hm
      · exact absurd h2 (e ▸ Nat.lt_irrefl _)
      · exact absurd (Nat.lt_trans (lt_ads h1 _ hm) h2) (Nat.lt_irrefl _), n1⟩
    have n3 : (dc :: ca :: cd :: Ads y.led).Nodup := List.nodup_cons.mpr ⟨fun hm => by
      rcases List.mem_cons.mp hm with e | hm
      · exact absurd h3 (e ▸ Nat.lt_irrefl _)
      rcases List.mem_cons.mp hm with e | hm
      · exact absurd (Nat.lt_trans h2 h3) (e ▸ Nat.lt_irrefl _)
      · exact absurd (Nat.lt_trans (Nat.lt_trans (lt_ads h1 _ hm) h2) h3) (Nat.lt_irrefl _), n2⟩
    exact nodup_idx dc (dc :: ca :: cd :: Ads y.led) [12, 2, 0, 10, 11, 9, 1, 3, 4, 5, 6, 7, 8, 13, 14, 15, 16, 17] 18 rfl (by decide) (by decide) n3
  refine ⟨⟨hoc, List.Perm.nil, List.nodup_nil, hR _ (.head _), (fun n hn => nomatch hn), (fun u hu => nomatch hu), hnd, ?_, hdc, ⟨_, _, _, _, .head _⟩, by simp⟩, ⟨O.hoh, List.Perm.nil, List.nodup_nil, (fun n hn => nomatch hn), (fun u hu => nomatch hu), O.hhl, by simp⟩, ?_, rfl, rfl, hz, hy, ?_, by simp, fun n hn => nomatch hn⟩
  · exact fun z hz => hR z (in_idx (181, y.tb) (y.R ca cd) [5, 6, 7] 12 rfl (by decide) z hz)
  · have hi : ∀ js : List Nat, (∀ j ∈ js, j < 12) → ∀ z, z ∈ js.map (fun j => (y.R ca cd).getD j (181, y.tb)) → z ∈ y.R ca cd := fun js hj => in_idx (181, y.tb) (y.R ca cd) js 12 rfl hj
    exact ⟨hi [5, 6, 7] (by decide), hi [3, 4, 8, 9, 10] (by decide), hi [1, 2, 8] (by decide), ⟨_, _, _, _, .tail _ (.tail _ (.tail _ (.head _)))⟩, ⟨_, _, _, _, .tail _ (.head _)⟩, hi [7] (by decide) _ (.head _), hi [8] (by decide) _ (.head _), hi [9] (by decide) _ (.head _), hi [10] (by decide) _ (.head _), O.vO, O.vLn, O.vH, O.vD⟩
  · show ((([] : List Node).length : Nat) : Int) ≤ size
    simp; lia
end
section
-- LSlice
open PySem PySem.W PySem.Calls PyProof.Rows
theorem rules_LSlice0 : True := by
  k_with_none
  k_with "ne" => (refine neN ?_; (try dsimp only); first | assumption | (apply Ne.symm; assumption))
  k_with "tone" => (refine neN ?_; (try dsimp only); first | assumption | (apply Ne.symm; assumption))
  k_with "mem" => assumption
  k_with "subscriptTail" => (k_here; (with_reducible show wpAny _ _ (subscriptTail _ _ (Value.ref _) (Value.int _ _)) _ _ _); k_dflt (refine' kda_item (knd := PySem.intKind _ _) ?Nr ?mr ?dr (intKind_is _ _ _ _) ?vr ?_; (case Nr => k_asm); (case mr => k_mem); (case dr => assumption); (case vr => assumption)))
  k_with "getItem ref int" => (k_here; k_dflt (refine' gi_sym ?Nr ?mr ?dr ?vr ?_; (case Nr => k_asm); (case mr => k_mem); (case dr => assumption); (case vr => assumption); k_whole))
  k_with "call builtin:len" => (k_here; (with_reducible show wpAny _ _ (call (Value.builtin "len") [Value.ref _]) _ _ _); k_dflt (refine' kda_len (knd := PySem.intKind _ _) ?Nr ?mr ?dr ?lr ?zr ?_; (case Nr => k_asm); (case mr => k_mem); (case dr => assumption); (case lr => assumption); (case zr => first | assumption | omega); k_whole))
  k_with "compareOp In int ref" => (k_here; k_dflt (first
    | (refine' kda_in (knd := PySem.intKind _ _) ?Nr ?mr ?dr ?lr (intKind_is _ _ _ _) true ?br ?_; (case Nr => k_asm); (case mr => k_mem); (case dr => assumption); (case lr => assumption); (case br => exact Option.isSome_iff_exists.mpr ⟨_, by assumption⟩); k_whole)
    | (refine' kda_in (knd := PySem.intKind _ _) ?Nr ?mr ?dr ?lr (intKind_is _ _ _ _) false ?br ?_; (case Nr => k_asm); (case mr => k_mem); (case dr => assumption); (case lr => assumption); (case br => exact Option.isSome_eq_false_iff.mpr (Option.isNone_iff_eq_none.mpr (by assumption))); k_whole)))
  k_with "setItem ref int" => (k_here; k_dflt (refine' kda_set (knd := PySem.intKind _ _) ?Fr ?Nr ?Ur ?dr (intKind_is _ _ _ _) ?zr ?_; (case Fr => k_asm); (case Nr => k_asm); (case Ur => k_updF); (case dr => assumption); (case zr => assumption)); intro h'r o'r F'r N'r hd'r; (try dsimp only at N'r))
  k_with "getMethod ref" => (k_here; (with_reducible show wpAny _ _ (getMethod (Value.ref _) (Str.ofString "pop") _) _ _ _); k_dflt (refine' kob_method (knd := PySem.intKind _ _) PySem.F.slot_dict_pop PySem.F.type_dict_pop ?Nr ?mr ?dr ?_; (case Nr => k_asm); (case mr => k_mem); (case dr => assumption)))
  k_with "getMethod ref" => (k_here; (with_reducible show wpAny _ _ (getMethod (Value.ref _) (Str.ofString "get") _) _ _ _); k_dflt (refine' kdg_method (knd := PySem.intKind _ _) ?Nr ?mr ?dr ?_; (case Nr => k_asm); (case mr => k_mem); (case dr => assumption)))
  k_with "call builtin:dict.pop" => (k_here; (with_reducible show wpAny _ _ (call (Value.builtin "dict.pop") [Value.ref _, Value.int _ _]) _ _ _); k_dflt (refine' kob_pop (knd := PySem.intKind _ _) (more := []) ?Fr ?Nr ?Ur ?dr (intKind_is _ _ _ _) (.inl rfl) (by rfl) (PySem.F.args_dict_pop_2 _ _) ?lr ?zr ?_; (case Fr => k_asm); (case Nr => k_asm); (case Ur => k_updF); (case dr => assumption); (case lr => assumption); (case zr => assumption)); intro h'r o'r F'r N'r hd'r; (try dsimp only at N'r))
  k_with "call builtin:dict.get" => (k_here; (with_reducible show wpAny _ _ (call (Value.builtin "dict.get") [Value.ref _, Value.int _ _, _]) _ _ _); k_dflt (refine' kdg_get2 (knd := PySem.intKind _ _) ?Nr ?mr ?dr ?lr (intKind_is _ _ _ _) _ ?vr ?_; (case Nr => k_asm); (case mr => k_mem); (case dr => assumption); (case lr => assumption); (case vr => assumption)); (try dsimp only [Option.getD]))
  k_with "enter" => (refine' code_def ?k1r ?k2r ?k3r ?k4r ?k5r ?kAr ?kFr ?kKr ?k6r ?k7r ?k8r ?k9r ?kBr ?_ ?c2r ?c3r ?c4r ?c5r; (case kAr => exact rfl); (case kFr => exact rfl); (case kKr => first | exact rfl | assumption); (case k1r => k_asm); (case k2r => k_asm); (case k3r => k_asm); (case k4r => k_asm); (case k5r => k_asm); (case k6r => k_is); (case k7r => k_is); (case k8r => ktr_room); (case k9r => first | exact BindsTo.of_eq rfl | exact binds_K (by k_in) rfl (by k_is) rfl rfl rfl); (case c5r => decide); (case kBr => exact locs rfl); (case c2r => exact rfl); (case c3r => exact rfl); (case c4r => exact rfl); k_whole; intro g'r L'r h'r FG'r F'r N'r B'r X'r T'r; (try dsimp only); (try k_fold))
  k_with "callWith ref" => (k_here; k_dflt (refine' callWith_F ?k1r ?_; (case k1r => exact FnAt.of (by k_asm) (by k_mem)); k_whole))
  trivial
section
variable {w : World} {p : Program} {loose : List Str} {mean : ExcName → Option Value} {mg mb : Str → Option Value} {g : Heap} {y : Pro} {fa : Addr} {s : Shared} {Q : Flow → Shared → Prop} {E : Value → Shared → Prop} {m : Str → Option Value}
  (B : Below callerA g [] g) (X : (hd.heap_39 w.params).In g) (T : Top p loose mean mg mb g)
include B X T
theorem rules_LSlice1 : True := by
  k_with "pyIter ref" => (k_here; k_dflt (refine halt ?_))
  trivial
set_option maxRecDepth 100000 in
set_option maxHeartbeats 400000 in
theorem slice {vs : List Value} {ns : List Int} {S : List (Addr × Obj)} {size stay keep : Int} {ca : Addr} {zt yt kt : Tok} (F : Fr g y.L s.heap (forMap y size stay keep ca zt yt kt m)) (N : News g y.L s.heap S) (hL : g.IsList y.sl vs.toArray) (hI : IntsAre vs ns) (h63 : ns.length ≤ 63) (hPE : PassesOwn (model PySem.Challenge.rw_iy0004_01.row.prog w) (callerA.deeper (envOfC (Str.ofString "law") lawScope y.L fa (.ref 183))) (envOfC (Str.ofString "law") lawScope y.L fa (.ref 183)) E)
  (ret : ∀ (h' : Heap) (tk : Nat) (l : Addr) (us : List Value) (ks : List Int) (n : Nat), IntsAre us ks → ks.length ≤ 62 → (∀ q ∈ S, q.1 < l) → Fr g y.L h' (forMap y size stay keep ca zt yt kt m) → News g y.L h' ((l, listOf us.toArray n) :: S) →
    wpAny (model PySem.Challenge.rw_iy0004_01.row.prog w) (callerA.deeper (envOfC (Str.ofString "law") lawScope y.L fa (.ref 183))) (pyIter (.ref l)) (fun it s₂ => LoopAtV PySem.Challenge.rw_iy0004_01.row.prog w (callerA.deeper (envOfC (Str.ofString "law") lawScope y.L fa (.ref 183))) g (envOfC (Str.ofString "law") lawScope y.L fa (.ref 183)) (Str.ofString "n") forBody Q E it s₂) E { s with heap := h', toks := tk }) :
  wpAny (model PySem.Challenge.rw_iy0004_01.row.prog w) (callerA.deeper (envOfC (Str.ofString "law") lawScope y.L fa (.ref 183))) (exec (lb 11) (envOfC (Str.ofString "law") lawScope y.L fa (.ref 183))) Q E s := by
  revert X; k_fill; intro X
  have e4 : lb 11 = Stmt.For (.Name (Str.ofString "n") _) _ forBody [] _ := rfl
  rw [e4]
  refine For_invV g rfl rfl ?_ (by intro _; rfl) hPE
  generalize forBody = fB at ret ⊢
  have es : lawScope = Scope.mk _ _ _ _ _ := rfl
  rw [es] at ret ⊢
  clear es e4 hPE
  k_steps
  exact ret _ _ _ _ _ _ (by assumption) (by omega) (by assumption) (by assumption) (by assumption)
theorem law7 {vs : List Value} {ns : List Int} (O : ProOk w y) (F : Fr g y.L s.heap (proMap y m)) (N : News g y.L s.heap y.led) (hL : g.IsList y.sl vs.toArray) (hI : IntsAre vs ns) (h63 : ns.length ≤ 63) (hPE : PassesOwn (model PySem.Challenge.rw_iy0004_01.row.prog w) (callerA.deeper (envOfC (Str.ofString "law") lawScope y.L fa (.ref 183))) (envOfC (Str.ofString "law") lawScope y.L fa (.ref 183)) E)
  (hE : ∀ e : Addr, PassesOwnAt (model PySem.Challenge.rw_iy0004_01.row.prog w) ((callerA.deeper (envOfC (Str.ofString "law") lawScope y.L fa (.ref 183))).mark (some (.ref e))) (callerA.deeper (envOfC (Str.ofString "law") lawScope y.L fa (.ref 183))) (envOfC (Str.ofString "law") lawScope y.L fa (.ref 183)) E)
  (ret : ∀ (h' : Heap) (tk : Nat) (m' : Str → Option Value) (led : List (Addr × Obj)), Fr g y.L h' m' → News g y.L h' led → (181, y.tb) ∈ led → Q (.ret (.bool true)) { s with heap := h', toks := tk }) :
  wpAny (model PySem.Challenge.rw_iy0004_01.row.prog w) (callerA.deeper (envOfC (Str.ofString "law") lawScope y.L fa (.ref 183))) (execs [lb 7, lb 8, lb 9, lb 10, lb 11, lb 12, lb 13, lb 14] (envOfC (Str.ofString "law") lawScope y.L fa (.ref 183))) Q E s := by
  refine prol B X T F N O.nd hL hI h63 fun h1 tk1 dc ca cd oc xc size stay keep zt yt kt zt2 yt2 hz hy hdc hoc l1 l2 l3 F1 N1 => ?_
  have I1 := pro_inv (xc := xc) (zt := zt2) (yt := yt2) O hz hy hdc hoc l1 l2 l3
  obtain ⟨vU, tU, kU1, kU2⟩ := O.kU
  obtain ⟨vD, tD, kD1, kD2⟩ := O.kD
  obtain ⟨vG, tG, kG1, kG2⟩ := O.kG
  have hG : GoneSpec w p loose mean mg mb (y.fix ca cd dc xc).c.ga (y.fix ca cd dc xc).c.ol (y.fix ca cd dc xc).c.S₀ := gone_ok O.vO kG1 kG2
  have hU : UseSpec w p loose mean mg mb (y.fix ca cd dc xc).ua (y.fix ca cd dc xc).lc (y.fix ca cd dc xc).Su := use_ok O.vLn kU1 kU2
  have hD : DropSpec w p loose mean mg mb (y.fix ca cd dc xc).da (y.fix ca cd dc xc).lc (y.fix ca cd dc xc).Sd := drop_ok O.vLn O.vH O.vD kD1 kD2
  have H1 : HasLaw (y.fix ca cd dc xc) (Pro.st oc size stay zt2 yt2) (forMap y size stay keep ca zt yt kt m) := ⟨rfl, ⟨_, rfl⟩, ⟨_, rfl⟩, rfl, rfl, rfl⟩
  refine wpAny_execs_cons (slice B X T F1 N1 hL hI h63 hPE fun h2 tk2 l us ks n iU hks lU F2 N2 => ?_)
  have N3 : News g y.L h2 ((l, listOf us.toArray n) :: LedC (y.fix ca cd dc xc) (Pro.st oc size stay zt2 yt2) y.lst (y.R ca cd)) := kst_newsOf N2 (consM pro_perm)
  have hl : ∀ p ∈ LedC (y.fix ca cd dc xc) (Pro.st oc size stay zt2 yt2) y.lst (y.R ca cd), p.1 ≠ l := fun p hp => Nat.ne_of_lt (lU p (pro_perm p hp))
  refine law_loop (x := y.fix ca cd dc xc) B X T hG hU hD hE F2 H1 N3 I1 iU hks hl fun h3 tk3 m3 cst3 lst3 R3 F3 H3 N4 I3 hR3 => ?_
  obtain ⟨zt3, yt3, e⟩ := lawMap_of H3
  rw [e] at F3
  refine tail1 (x := y.fix ca cd dc xc) B X T hG hU hD hks F3 N4 I3 fun h4 tk4 m4 cst4 lst4 R4 F4 N5 hR4 => ?_
  refine ret h4 tk4 m4 _ F4 N5 (ledCL' (hR4 _ (hR3 _ ?_)))
  simp only [List.mem_cons, true_or, or_true]
end
end
section
-- LFin
open PySem PySem.W PySem.Calls PyProof.Rows
/-- addresses that fall -/
noncomputable def Desc : List Addr → Prop
  | a :: b :: r => @LT.lt Nat _ b a ∧ Desc (b :: r)
  | _ => True
theorem Desc.lt : ∀ {r : List Addr} {a : Addr}, Desc (a :: r) → ∀ b ∈ r, b < a
  | [], _, _, _, h => nomatch h
  | c :: r, a, d, b, h => by
    rcases List.mem_cons.mp h with e | h
    · exact e ▸ d.1
    · exact Nat.lt_trans (Desc.lt d.2 b h) d.1
theorem Desc.nodup : ∀ {l : List Addr}, Desc l → l.Nodup
  | [], _ => List.nodup_nil
  | [a], _ => by simp
  | a :: b :: r, d => List.nodup_cons.mpr ⟨fun h => absurd (Desc.lt d a h) (Nat.lt_irrefl _), Desc.nodup d.2⟩
theorem fr_script {g h : Heap} {y : Pro} {m : Str → Option Value} (hs : m (Str.ofString "script") = some (.ref y.sl))
    (F : Fr g y.L h (fun n => if n = Str.ofString "use" then some (.ref y.fU) else if n = Str.ofString "drop" then some (.ref y.fD) else if n = Str.ofString "gone" then some (.ref y.fG) else m n)) : Fr g y.L h (proMap y m) := by
  refine cast (congrArg (Fr g y.L h) ?_) F
  funext n
  unfold proMap
  split
  · rfl
  split
  · rfl
  split
  · rfl
  split
  · rename_i e; rw [e, hs]
  · rfl
theorem rules_LFin0 : True := by
  k_with_none
  k_with "mem" => (first | assumption | exact mem_at 0 rfl | exact mem_at 1 rfl | exact mem_at 2 rfl | exact mem_at 3 rfl | exact mem_at 4 rfl | exact mem_at 5 rfl | exact mem_at 6 rfl | exact mem_at 7 rfl | exact mem_at 8 rfl | exact mem_at 9 rfl | exact mem_at 10 rfl | exact mem_at 11 rfl | exact mem_at 12 rfl | exact mem_at 13 rfl | exact mem_at 14 rfl | exact mem_at 15 rfl)
  k_with "newList" => (k_here; k_dflt (refine' newList_K ?k1r ?k2r ?_; (case k1r => k_asm); (case k2r => k_asm); k_whole); intro l'r h'r F'r N'r l1r; k_dflt (have hn8r := nd_new l1r (by assumption)); (let n7r := newsOf N'r); (have N7r : News _ _ _ n7r := N'r); (try k_sweep))
  k_with "eval Dict nil nil" => (k_here; k_dflt (refine' newDict_K ?k1r ?k2r (TopRead.nolimit (by k_asm)) ?_; (case k1r => k_asm); (case k2r => k_asm); k_whole); intro d'r h'r o'r F'r N'r l1r lo'r hs'r fs'r hi'r fi'r; k_dflt (have hn8r := nd_new l1r (by assumption)); (let n7r := newsOf N'r); (have N7r : News _ _ _ n7r := N'r); (try k_sweep))
  k_with "storeName" => (k_here; k_dflt (refine' storeX_L ?F1r ?N1r ?_ ?a1r ?b1r; (case F1r => k_asm); (case N1r => k_asm); (case a1r => rfl); (case b1r => rfl); k_whole); (refine (?_ : let m9 := _; ∀ h', Fr _ _ h' m9 → News _ _ h' _ → _)); intro m9r h'r F'r N'r; (try k_sweep))
  k_with "storeName" => (k_here; k_dflt (refine' storeX_C ?Fr ?Nr ?cr ?Ur ?dr ?_ ?ar ?br; (case ar => rfl); (case br => rfl); (case Fr => k_asm); (case Nr => k_asm); (case cr => rfl); (case Ur => (first | exact updF_nd 0 (by assumption) rfl | exact updF_nd 1 (by assumption) rfl | exact updF_nd 2 (by assumption) rfl | exact updF_nd 3 (by assumption) rfl | exact updF_nd 4 (by assumption) rfl | exact updF_nd 5 (by assumption) rfl | exact updF_nd 6 (by assumption) rfl | exact updF_nd 7 (by assumption) rfl | exact updF_nd 8 (by assumption) rfl | exact updF_nd 9 (by assumption) rfl | exact updF_nd 10 (by assumption) rfl | exact updF_nd 11 (by assumption) rfl | exact updF_nd 12 (by assumption) rfl | exact updF_nd 13 (by assumption) rfl | exact updF_nd 14 (by assumption) rfl | exact updF_nd 15 (by assumption) rfl | k_updF)); (case dr => k_asm); k_whole); intro h'r o'r F'r N'r d'r; (try dsimp only at N'r); (let n7r := newsOf N'r); (have N7r : News _ _ _ n7r := N'r); (try k_sweep))
  k_with "exec FunctionDef" => (k_here; kn_here; k_dflt (refine' nestDef_K ?d0r ?k0r ?a0r ?_; (case d0r => exact rfl); (case k0r => exact rfl); (case a0r => exact rfl)); k_dflt (refine' nest_K ?Fr ?Nr ?Tr ?Cr ?cdr ?Ur ?tr ?nr ?clr ?_; (case Fr => k_asm); (case Nr => k_asm); (case Tr => k_asm); (case cdr => exact rfl); (case Cr => kn_code); (case Ur => (first | exact updF_nd 0 (by assumption) rfl | exact updF_nd 1 (by assumption) rfl | exact updF_nd 2 (by assumption) rfl | exact updF_nd 3 (by assumption) rfl | exact updF_nd 4 (by assumption) rfl | exact updF_nd 5 (by assumption) rfl | exact updF_nd 6 (by assumption) rfl | exact updF_nd 7 (by assumption) rfl | exact updF_nd 8 (by assumption) rfl | exact updF_nd 9 (by assumption) rfl | exact updF_nd 10 (by assumption) rfl | exact updF_nd 11 (by assumption) rfl | exact updF_nd 12 (by assumption) rfl | exact updF_nd 13 (by assumption) rfl | exact updF_nd 14 (by assumption) rfl | exact updF_nd 15 (by assumption) rfl | k_updF)); (case tr => kn_triples); (case nr => kn_among); (case clr => exact rfl); k_whole); intro f'r c'r oc'r vs'r t'r ct'r dc'r h'r tk'r F'r N'r d1'r d2'r l1r l2r; (try dsimp only at N'r); k_dflt (have hn8r := nd_new2 l1r l2r (by assumption)); (let n7r := newsOf N'r); (have N7r : News _ _ _ n7r := N'r); (try k_sweep))
  k_with "execs cons" => (k_here; (with_reducible show wpAny _ _ (execs (lb 7 :: _) _) _ _ _); k_dflt (refine halt ?_))
  trivial
section
variable {w : World} {p : Program} {loose : List Str} {mean : ExcName → Option Value} {mg mb : Str → Option Value} {g : Heap} {fa : Addr} {s : Shared} {Q : Flow → Shared → Prop} {E : Value → Shared → Prop} {m : Str → Option Value}
set_option maxRecDepth 100000 in
set_option maxHeartbeats 2000000 in
/-- the law from its first statement on -/
theorem law0 {L sl : Addr} {o1 o2 o3 o4 : Obj} {v1 v2 v3 v4 : Option Value} {vs : List Value} {ns : List Int} (B : Below callerA g [] g) (X : (hd.heap_39 w.params).In g) (T : Top p loose mean mg mb g) (hm : m (Str.ofString "script") = some (.ref sl)) (F : Fr g L s.heap m)
  (N : News g L s.heap [(L + 1 + 1 + 1 + 1, o4), (L + 1 + 1 + 1, o3), (L + 1 + 1, o2), (L + 1, o1), (181, tabObj #[])]) (c4 : o4.data = .cell v4) (c3 : o3.data = .cell v3) (c2 : o2.data = .cell v2) (c1 : o1.data = .cell v1) (hl : @LT.lt Nat _ 181 L) (CH : CodeHd g 183 181)
  (hL : g.IsList sl vs.toArray) (hI : IntsAre vs ns) (h63 : ns.length ≤ 63) (hPE : PassesOwn (model PySem.Challenge.rw_iy0004_01.row.prog w) (callerA.deeper (envOfC (Str.ofString "law") lawScope L fa (.ref 183))) (envOfC (Str.ofString "law") lawScope L fa (.ref 183)) E)
  (hE : ∀ e : Addr, PassesOwnAt (model PySem.Challenge.rw_iy0004_01.row.prog w) ((callerA.deeper (envOfC (Str.ofString "law") lawScope L fa (.ref 183))).mark (some (.ref e))) (callerA.deeper (envOfC (Str.ofString "law") lawScope L fa (.ref 183))) (envOfC (Str.ofString "law") lawScope L fa (.ref 183)) E)
  (ret : ∀ (h' : Heap) (tk : Nat) (m' : Str → Option Value) (led : List (Addr × Obj)) (ps : Array Value), Fr g L h' m' → News g L h' led → (181, tabObj ps) ∈ led → Q (.ret (.bool true)) { s with heap := h', toks := tk }) :
  wpAny (model PySem.Challenge.rw_iy0004_01.row.prog w) (callerA.deeper (envOfC (Str.ofString "law") lawScope L fa (.ref 183))) (execs lawBody (envOfC (Str.ofString "law") lawScope L fa (.ref 183))) Q E s := by
  revert X; k_fill; intro X
  have hn : (Ads [(L + 1 + 1 + 1 + 1, o4), (L + 1 + 1 + 1, o3), (L + 1 + 1, o2), (L + 1, o1), (181, tabObj #[])]).Nodup :=
    Desc.nodup ⟨Nat.lt_succ_self _, Nat.lt_succ_self _, Nat.lt_succ_self _, Nat.lt_succ_of_lt hl, trivial⟩
  have es : lawScope = Scope.mk _ _ _ _ _ := rfl
  have eb : lawBody = Stmt.Assign _ _ _ :: Stmt.Assign _ _ _ :: Stmt.Assign _ _ _ :: Stmt.Assign _ _ _ :: Stmt.FunctionDef _ _ _ _ _ _ _ _ _ _ :: Stmt.FunctionDef _ _ _ _ _ _ _ _ _ _ :: Stmt.FunctionDef _ _ _ _ _ _ _ _ _ _ :: [lb 7, lb 8, lb 9, lb 10, lb 11, lb 12, lb 13, lb 14] := rfl
  rw [eb, es]
  let l9 := newsOf N
  have N9 : News _ _ _ l9 := N
  let m9 := mapOf F
  have F9 : Fr _ _ _ m9 := F
  refine (?_ : let e9 := _; let A9 := _; wpAny _ A9 (execs _ e9) _ _ _)
  intro e9 A9
  k_steps
  (rename News _ _ _ _ => N9); (rename Fr _ _ _ _ => F9)
  unfold Halt
  have N8 : News g L _ [(_, _), (_, _), (_, _), (_, _), (_, _), (_, _), (_, _), (_, _), (_, _), (_, _), (_, _), (_, _), (_, _), (_, _), (181, _)] := N9
  have F8 : Fr g L _ (fun n => if n = Str.ofString "use" then _ else if n = Str.ofString "drop" then _ else if n = Str.ofString "gone" then _ else m n) := F9
  have hx : List.Nodup [_, _, _, _, _, _, _, _, _, _, _, _, _, _, 181] := hn8r
  clear N9 F9
  refine law7 (y := ⟨L, sl, _, _, _, _, _, _, _, _, _, _, _, _, _, _, _, _, _, _, _, _, _, _, _, _, _, _, _, _, _, _, _⟩) B X T ?kO (fr_script hm F8) N8 hL hI h63 hPE hE ?kR
  case kO =>
    refine ⟨by assumption, by assumption, by assumption, by assumption, ⟨_, _, by assumption, by assumption⟩, ⟨_, _, by assumption, by assumption⟩, ⟨_, _, by assumption, by assumption⟩, by assumption, by assumption, hx⟩
  case kR => exact fun h' tk m' led F' N' hm => ret h' tk m' led _ F' N' hm
end
theorem rules_LFin1 : True := by
  k_with_none
  k_with "execs cons" => (k_here; (with_reducible show wpAny _ _ (execs (Stmt.Assign [Expr.Name (Str.ofString "size") _] _ _ :: _) _) _ _ _); k_dflt (refine halt ?_))
  trivial
set_option maxRecDepth 100000 in
set_option maxHeartbeats 2000000 in
theorem tst : PySem.Challenge.rw_iy0004_01.Holds := hd (by
  k_go0
  all_goals try k_fold
  (rename News _ _ _ _ => N9); (rename Fr _ _ _ _ => F9); (rename Below _ _ _ _ => B9); (rename Top _ _ _ _ _ _ => T9); (rename (Frag.In _ _) => X9)
  (rename Heap.IsList _ _ _ => hL9); (rename IntsAre _ _ => hI9)
  refine law0 B9 X9 T9 ?kS F9 N9 (by assumption) (by assumption) (by assumption) (by assumption) (by assumption) (by assumption) hL9 hI9 (by omega) ?kP ?kE ?kR
  case kS => rfl
  case kP => with_unfolding_all passes_own
  case kE =>
    intro e
    with_unfolding_all passes_own
  case kR =>
    intro h' tk m' led ps F' N' hm
    clear N9 F9
    try dsimp only
    k_steps)
end
end Mine
theorem PySem.Challenge.cw_iy0004_01_holds : PySem.Challenge.rw_iy0004_01.Holds := by
  exact Mine.tst
