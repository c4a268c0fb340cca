import PyProof.Rows.All
import Wide.All
import OpenK.AllK
import Wide.FinOn
import PySem.Challenge.RW_pe0034_01
set_option Elab.async false
/-! part Head34 -/
section
open PySem PySem.W PyProof.Rows
set_option Elab.async false
set_option maxRecDepth 100000
namespace Mine
open_top hd for PySem.Challenge.rw_pe0034_01
end Mine
end
theorem Mine.reset_Head34 : True := by
  w_top off
  trivial
/-! part Plain1 -/
section
open PySem PySem.W PyProof.Rows
set_option Elab.async false
namespace Mine
open PySem.Builtin PySem.Builtin.Str PySem.StrLaws

def txt (l : List Nat) : Str := ⟨l.toArray⟩
abbrev codes (x : Str) : List Nat := x.cps.toList
theorem txt_codes (x : Str) : txt (codes x) = x := by obtain ⟨⟨l⟩⟩ := x; rfl
theorem codes_txt (l : List Nat) : codes (txt l) = l := rfl
theorem txt_length (l : List Nat) : (txt l).length = l.length := by show l.toArray.size = _; simp
theorem codes_length (x : Str) : (codes x).length = x.length := by show x.cps.toList.length = x.cps.size; simp
theorem txt_append (a b : List Nat) : txt a ++ txt b = txt (a ++ b) := by
  apply Str.ext'
  rw [Str.cps_append]
  show a.toArray ++ b.toArray = (a ++ b).toArray
  simp
theorem txt_inj {a b : List Nat} (h : txt a = txt b) : a = b := by
  have : codes (txt a) = codes (txt b) := by rw [h]
  exact this

/-- the first place of c in l ahead of hi, or -1 -/
def FirstAt (l : List Nat) (c hi : Nat) (v : Int) : Prop :=
  (v = -1 ∧ ∀ k, k < hi → l[k]? ≠ some c) ∨ ∃ k : Nat, v = (k : Int) ∧ k < hi ∧ l[k]? = some c ∧ ∀ i, i < k → l[i]? ≠ some c
def LastAt (l : List Nat) (c hi : Nat) (v : Int) : Prop :=
  (v = -1 ∧ ∀ k, k < hi → l[k]? ≠ some c) ∨ ∃ k : Nat, v = (k : Int) ∧ k < hi ∧ l[k]? = some c ∧ ∀ i, k < i → i < hi → l[i]? ≠ some c

def stopC (c : Nat) : Bool := c == 58 || c == 10
def headL (l : List Nat) : List Nat := l.takeWhile fun c => !stopC c
def tailDot (l : List Nat) : List Nat := (l.reverse.takeWhile fun c => c != 46).reverse
def stripL (l : List Nat) : List Nat := tailDot (headL l)

theorem takeWhile_of {p : Nat → Bool} : ∀ (l : List Nat) (e : Nat), e ≤ l.length → (∀ k c, k < e → l[k]? = some c → p c = true) → (∀ c, l[e]? = some c → p c = false) → l.take e = l.takeWhile p
  | [], e, _, _, _ => by simp
  | a :: l, 0, _, _, h => by
    have := h a rfl
    simp [this]
  | a :: l, e + 1, he, h, hs => by
    have ha := h 0 a (Nat.succ_pos _) rfl
    rw [List.take_succ_cons, List.takeWhile_cons, ha, if_pos rfl]
    rw [takeWhile_of l e (by simpa using he) (fun k c hk hc => h (k + 1) c (by omega) (by simpa using hc)) (fun c hc => hs c (by simpa using hc))]

theorem takeWhile_all {p : Nat → Bool} : ∀ {l : List Nat}, (∀ c ∈ l, p c = true) → l.takeWhile p = l
  | [], _ => rfl
  | a :: l, h => by rw [List.takeWhile_cons, h a (.head _), if_pos rfl, takeWhile_all fun c hc => h c (.tail _ hc)]
theorem tailDot_none {l : List Nat} (h : ∀ c ∈ l, c ≠ 46) : tailDot l = l := by
  unfold tailDot
  rw [takeWhile_all, List.reverse_reverse]
  intro c hc
  have := h c (List.mem_reverse.mp hc)
  simpa using this
theorem tailDot_append {a b : List Nat} (h : ∀ c ∈ b, c ≠ 46) : tailDot (a ++ 46 :: b) = b := by
  unfold tailDot
  rw [List.reverse_append, List.reverse_cons, List.append_assoc, List.takeWhile_append_of_pos]
  · simp
  · intro c hc
    have := h c (List.mem_reverse.mp hc)
    simpa using this

theorem getElem?_take_ne {l : List Nat} {e c : Nat} (h : ∀ k, k < e → l[k]? ≠ some c) : ∀ d ∈ l.take e, d ≠ c := by
  intro d hd hc
  subst hc
  obtain ⟨k, hk⟩ := List.mem_iff_getElem?.mp hd
  rw [List.getElem?_take] at hk
  split at hk
  · exact h k (by assumption) hk
  · cases hk

theorem tailDot_at {l : List Nat} {e k : Nat} (hk : k < e) (he : e ≤ l.length) (hc : l[k]? = some 46) (hn : ∀ i, k < i → i < e → l[i]? ≠ some 46) : tailDot (l.take e) = (l.drop (k + 1)).take (e - (k + 1)) := by
  have h1 : l.take e = (l.take e).take k ++ 46 :: (l.take e).drop (k + 1) := by
    have hk' : (l.take e)[k]? = some 46 := by rw [List.getElem?_take, if_pos hk]; exact hc
    have hlen : k < (l.take e).length := by rw [List.length_take]; omega
    have := List.take_append_drop k (l.take e)
    rw [List.drop_eq_getElem_cons hlen] at this
    have hv : (l.take e)[k] = 46 := by
      rw [List.getElem?_eq_getElem hlen] at hk'
      exact Option.some.inj hk'
    rw [hv] at this
    exact this.symm
  rw [h1, tailDot_append]
  · rw [List.drop_take]
  · intro d hd hc'
    subst hc'
    obtain ⟨j, hj⟩ := List.mem_iff_getElem?.mp hd
    rw [List.getElem?_drop, List.getElem?_take] at hj
    split at hj
    · exact hn _ (by omega) (by assumption) hj
    · cases hj

theorem slice_txt {x : Str} {i j : Int} (h0 : 0 ≤ i) (h1 : i ≤ j) (h2 : j ≤ x.length) : Txt.slice x (some i) (some j) = txt (((codes x).drop i.toNat).take (j - i).toNat) :=
  sliceText_plain (x := x) ⟨h0, h1, by rw [codes_length]; exact h2⟩
theorem slice_to {x : Str} {j : Int} (h0 : 0 ≤ j) (h2 : j ≤ x.length) : Txt.slice x none (some j) = txt ((codes x).take j.toNat) := by
  have := sliceText_to (x := x) (j := j) ⟨h0, by rw [codes_length]; exact h2⟩
  rw [List.drop_zero, Int.sub_zero] at this
  exact this
theorem slice_from {x : Str} {i : Int} (h0 : 0 ≤ i) (h2 : i ≤ x.length) : Txt.slice x (some i) none = txt ((codes x).drop i.toNat) := by
  have := sliceText_from (x := x) (i := i) ⟨h0, by rw [codes_length]; exact h2⟩
  rw [List.take_of_length_le (by rw [List.length_drop]; omega)] at this
  exact this

theorem strip_value {x : Str} {r1 r2 r3 e1 e2 st : Int} (f1 : FirstAt (codes x) 10 x.length r1) (h1 : (0 ≤ r1 ∧ e1 = r1) ∨ (¬ 0 ≤ r1 ∧ e1 = x.length))
    (f2 : FirstAt (codes x) 58 e1.toNat r2) (h2 : (0 ≤ r2 ∧ e2 = r2) ∨ (¬ 0 ≤ r2 ∧ e2 = e1)) (f3 : LastAt (codes x) 46 e2.toNat r3) (h3 : (0 ≤ r3 ∧ st = r3 + 1) ∨ (¬ 0 ≤ r3 ∧ st = 0)) :
    Txt.slice x (some st) (some e2) = txt (stripL (codes x)) := by
  generalize hl : codes x = l at *
  have hlen : l.length = x.length := by rw [← hl, codes_length]
  -- the first end
  have g1 : 0 ≤ e1 ∧ e1 ≤ x.length ∧ (∀ k, k < e1.toNat → l[k]? ≠ some 10) ∧ (∀ c, l[e1.toNat]? = some c → c = 10) := by
    rcases f1 with ⟨h, hn⟩ | ⟨k, h, hk, hc, hn⟩
    · rcases h1 with ⟨a, _⟩ | ⟨_, b⟩
      · omega
      · subst b
        refine ⟨by omega, by omega, fun k hk => hn k (by omega), fun c hc => ?_⟩
        rw [List.getElem?_eq_none (by omega)] at hc; cases hc
    · rcases h1 with ⟨_, b⟩ | ⟨a, _⟩
      · subst b; subst h
        refine ⟨by omega, by omega, fun i hi => hn i (by omega), fun c hc' => ?_⟩
        rw [show ((k : Int)).toNat = k from by omega, hc] at hc'
        exact (Option.some.inj hc').symm
      · omega
  have g2 : 0 ≤ e2 ∧ e2 ≤ e1 ∧ (∀ k, k < e2.toNat → l[k]? ≠ some 58) ∧ (∀ c, l[e2.toNat]? = some c → stopC c = true) := by
    rcases f2 with ⟨h, hn⟩ | ⟨k, h, hk, hc, hn⟩
    · rcases h2 with ⟨a, _⟩ | ⟨_, b⟩
      · omega
      · subst b
        exact ⟨g1.1, Int.le_refl _, hn, fun c hc => by rw [g1.2.2.2 c hc]; rfl⟩
    · rcases h2 with ⟨_, b⟩ | ⟨a, _⟩
      · subst b; subst h
        refine ⟨by omega, by omega, fun i hi => hn i (by omega), fun c hc' => ?_⟩
        rw [show ((k : Int)).toNat = k from by omega, hc] at hc'
        rw [← Option.some.inj hc']; rfl
      · omega
  have hh : l.take e2.toNat = headL l := by
    refine takeWhile_of l e2.toNat (by omega) (fun k c hk hc => ?_) (fun c hc => by rw [g2.2.2.2 c hc]; rfl)
    have a1 := g1.2.2.1 k (by omega)
    have a2 := g2.2.2.1 k hk
    rw [hc] at a1 a2
    have b1 : c ≠ 10 := fun e => a1 (by rw [e])
    have b2 : c ≠ 58 := fun e => a2 (by rw [e])
    simp [stopC, b1, b2]
  unfold stripL
  rw [← hh]
  rcases f3 with ⟨h, hn⟩ | ⟨k, h, hk, hc, hn⟩
  · rcases h3 with ⟨a, _⟩ | ⟨_, b⟩
    · omega
    · subst b
      rw [slice_txt (by omega) (by omega) (by omega), hl, tailDot_none (getElem?_take_ne hn)]
      simp
  · rcases h3 with ⟨_, b⟩ | ⟨a, _⟩
    · subst b; subst h
      rw [slice_txt (by omega) (by omega) (by omega), hl, tailDot_at hk (by omega) hc hn]
      congr 2
      omega
    · omega
/-- a word that the walk does not open -/
structure Stop (P : Prop) : Prop where
  go :: (out : P)
theorem upd_self {m : Str → Option Value} {x : Str} {v : Value} (h : m x = some v) : (fun y => if y = x then some v else m y) = m := by
  funext y
  by_cases e : y = x
  · rw [if_pos e, e, h]
  · rw [if_neg e]
theorem frUpd {h₀ h : Heap} {L : Addr} {m : Str → Option Value} {x : Str} {v : Value} (F : Fr h₀ L h m) (e : m x = some v) : Fr h₀ L h (fun y => if y = x then some v else m y) := by rw [upd_self e]; exact F
end Mine
end
theorem Mine.reset_Plain1 : True := by
  w_top off
  trivial
/-! part FLogic -/
section
open PySem PySem.W PyProof.Rows PySem.Calls
set_option Elab.async false
set_option maxRecDepth 100000
namespace Mine


/-- codes that may hold a bytearray on the stack -/
def holders : List String := ["bytearray.__contains__", "bytearray.__mod__", "bytearray.__rmod__", "_struct.pack_into.held", "bytearray.find.held"] ++ PySem.Builtin.Bytes.decodersThatHold
def noHold : Code → Bool
  | .builtin i _ => !holders.contains i
  | _ => true
/-- a context whose stack holds no such code -/
def Free (Γ : Ctx) : Prop := noHold Γ.code = true ∧ ∀ x ∈ Γ.below, noHold x.1 = true
def FreeB (Γ : Ctx) : Prop := ∀ x ∈ Γ.below, noHold x.1 = true

def wpF {α : Type} (M : Model) (A : Around) (t : Sem α) (Q : α → Shared → Prop) (E : Value → Shared → Prop) (s : Shared) : Prop :=
  ∀ Γ p, Γ.In A → Free Γ → Sem.wp M Γ t (fun a _ s' => Q a s') (fun e _ s' => E e s') p s
def codeF (M : Model) (A : Around) (c : Code) (R : Result → Shared → Prop) (s : Shared) : Prop :=
  ∀ Γ p, Γ.code = c → Γ.Below A → FreeB Γ → wpCode M Γ R p s

section
variable {α β : Type} {M : Model} {A : Around} {E : Value → Shared → Prop} {s : Shared}
theorem wpF_of {t : Sem α} {Q : α → Shared → Prop} (h : wpAny M A t Q E s) : wpF M A t Q E s := fun Γ p hi _ => h Γ p hi
theorem codeF_of {c : Code} {R : Result → Shared → Prop} (h : codeAny M A c R s) : codeF M A c R s := fun Γ p hc hb _ => h Γ p hc hb
theorem wpF_mono {t : Sem α} {Q Q' : α → Shared → Prop} {E' : Value → Shared → Prop} (h : wpF M A t Q E s)
    (hQ : ∀ a s, Q a s → Q' a s) (hE : ∀ e s, E e s → E' e s) : wpF M A t Q' E' s :=
  fun Γ p hΓ hf => Sem.wp_mono M Γ t (fun a _ s => hQ a s) (fun e _ s => hE e s) p s (h Γ p hΓ hf)
theorem wpF_bind {m : Sem α} {f : α → Sem β} {Q : β → Shared → Prop} (h : wpF M A m (fun a s' => wpF M A (f a) Q E s') E s) :
    wpF M A (m >>= f) Q E s := fun Γ p hΓ hf => by
  rw [Sem.wp_bind']
  exact Sem.wp_mono M Γ m (fun a p' s' h' => h' Γ p' hΓ hf) (fun _ _ _ h' => h') p s (h Γ p hΓ hf)
theorem wpF_pure {a : α} {Q : α → Shared → Prop} (h : Q a s) : wpF M A (pure a) Q E s := fun _ _ _ _ => h
theorem wpF_holding {vs : List Value} {m : Sem α} {Q : α → Shared → Prop} (h : wpF M A m Q E s) : wpF M A (holding vs m) Q E s :=
  fun Γ p hΓ hf => by rw [Sem.wp_holding]; exact h Γ p hΓ hf
theorem wpF_keep {vs : List Value} {m : Sem α} {Q : α → Shared → Prop} (h : wpF M A m Q E s) : wpF M A (m.keep vs) Q E s :=
  fun Γ p hΓ hf => by rw [Sem.wp_keep]; exact h Γ p hΓ hf
theorem wpF_onRaise {m : Sem α} {k : Value → Sem Unit} {Q : α → Shared → Prop}
    (h : wpF M A m Q (fun e s' => wpF M A (k e) (fun _ s'' => E e s'') E s') s) : wpF M A (m.onRaise k) Q E s := fun Γ p hΓ hf => by
  rw [Sem.wp_onRaise]
  exact Sem.wp_mono M Γ m (fun _ _ _ h' => h') (fun e p' s' h' => h' Γ p' hΓ hf) p s (h Γ p hΓ hf)
theorem wpF_attempt {m : Sem α} {Q : Except Value α → Shared → Prop} (h : wpF M A m (fun a => Q (.ok a)) (fun e => Q (.error e)) s) :
    wpF M A m.attempt Q E s := fun Γ p hΓ hf => by rw [Sem.wp_attempt]; exact h Γ p hΓ hf
theorem wpF_run {c : Code} {h : Option Value} {Q : Flow → Shared → Prop}
    (hc : codeF M (A.mark h) c (fun r s' => match r with | .ok f => Q f s' | .error e => E e s') s) (hnb : h ≠ some byPass := by intro x; cases x) :
    wpF M A (run c h) Q E s :=
  fun Γ p hΓ hf => by
    rw [Sem.wp_run]
    refine hc _ p rfl (hΓ.enter c h p hnb) fun x hx => ?_
    rcases List.mem_cons.mp hx with rfl | hx
    · exact hf.1
    · exact hf.2 x hx
theorem wpF_runValue {c : Code} {Q : Value → Shared → Prop}
    (hc : codeF M A c (fun r s' => match r with | .ok (.ret v) => Q v s' | .ok _ => False | .error e => E e s') s) :
    wpF M A (runValue c) Q E s := fun Γ p hΓ hf => by
  rw [Sem.wp_runValue]
  refine hc _ p rfl (hΓ.enter c none p (by intro x; cases x)) fun x hx => ?_
  rcases List.mem_cons.mp hx with rfl | hx
  · exact hf.1
  · exact hf.2 x hx
theorem wpF_call {f : Value} {pos : List Value} {kw : List (Str × Value)} {Q : Value → Shared → Prop}
    (hc : codeF M A (.call f ⟨pos, kw⟩) (fun r s' => match r with | .ok (.ret v) => Q v s' | .ok _ => False | .error e => E e s') s) :
    wpF M A (call f pos kw) Q E s := wpF_runValue hc
theorem codeF_mono {c : Code} {R R' : Result → Shared → Prop} (h : codeF M A c R s) (hr : ∀ r s, R r s → R' r s) : codeF M A c R' s :=
  fun Γ p hc hb hf => wpCode_mono hr (h Γ p hc hb hf)
theorem codeF_of_tree {c : Code} {R : Result → Shared → Prop} (hn : noHold c = true)
    (h : wpF M (A.under c) (M.den c) (fun fin s' => match fin with | .done f => R (.ok f) s' | .again c' => c'.quiet = true ∧ codeF M A c' R s')
      (fun e s' => R (.error e) s') s) : codeF M A c R s := fun Γ p hc hΓ hf => by
  rw [wpCode_iff_wp, hc]
  refine Sem.wp_mono M Γ _ (fun fin p' s' h' => ?_) (fun _ _ _ h' => h') p s (h Γ p (hc ▸ hΓ.in) ⟨by rw [hc]; exact hn, hf⟩)
  cases fin with
  | done f => exact h'
  | again c' => exact ⟨h'.1, h'.2 (Γ.goto c') p' rfl (hΓ.goto c') hf⟩
theorem codeF_loop {c : Code} {R : Result → Shared → Prop} (hq : c.quiet = true) (hn : noHold c = true) (I : Nat → Shared → Prop)
    (turn : ∀ n s, I n s → wpF M (A.under c) (M.den c)
      (fun fin s' => match fin with | .done f => R (.ok f) s' | .again c' => (c' = c ∧ ∃ m, m < n ∧ I m s') ∨ (c'.quiet = true ∧ codeF M A c' R s')) (fun e s' => R (.error e) s') s)
    (n : Nat) (h : I n s) : codeF M A c R s := by
  induction n using Nat.strongRecOn generalizing s with
  | ind n ih =>
    refine codeF_of_tree hn (wpF_mono (turn n s h) (fun fin s' hf => ?_) fun _ _ h' => h')
    cases fin with
    | done f => exact hf
    | again c' =>
      rcases hf with ⟨rfl, m, hm, hI⟩ | hf
      · exact ⟨hq, ih m hm hI⟩
      · exact hf
end
theorem caller_free : Free ⟨.builtin "claim.caller" {}, none, none, [], none⟩ := ⟨by decide +kernel, fun x hx => nomatch hx⟩
end Mine
end
theorem Mine.reset_FLogic : True := by
  w_top off
  trivial
/-! part FHead -/
section
open PySem PySem.W PyProof.Rows PySem.Calls
set_option Elab.async false
set_option maxRecDepth 100000
namespace Mine

/-! The library's head, once more, for wpF: its walk is asked in contexts free of codec frames alone. The library has no such head to take.
The statements and the order of the steps follow the library's (Open/Head, Wide/BridgeG) where nothing differs; what differs is the logic, wpF for wpAny. -/
theorem ends_F {prog : Program} {w : World} {t : Sem Fin} {s : Shared} {R : Result → Shared → Prop} (hreg : s.asleep)
    (h : wpF (model prog w) callerA t (fun fin s' => ∃ f, fin = .done f ∧ (R (.ok f) s' ∧ leftWithCleanup s'.gens = false)) (fun e s' => R (.error e) s' ∧ leftWithCleanup s'.gens = false) s) :
    ∃ n r s' s'', runN (denote table) prog w n s ⟨t, .builtin "claim.caller" {}, default, []⟩ = .halted (outcomeOf r) s' ∧
      schedN (denote table) prog w n (.single s ⟨t, .builtin "claim.caller" {}, default, []⟩) = .halted (outcomeOf r) s' ∧ s'.forget = s''.forget ∧ R r s'' := by
  obtain ⟨n, r, s₁, s₂, hs, hn, hfo, hR⟩ := wp_halts_full (M := model prog w) (R := R) hreg
    (Sem.wp_mono _ _ t (fun fin p' s' h' => by obtain ⟨f, rfl, hf⟩ := h'; exact hf) (fun _ _ _ h' => h') default s (h _ default caller_in caller_free))
  exact ⟨n, r, s₂, s₁, hn, hs, hfo, hR⟩

theorem callFrom_F {c : ClaimW} {tree : List Value → Sem Fin} {w : World} {s : Shared} {free : Addr → Prop} {gens : Prop} {kept : Heap → Prop} (hz : s.asleep) (hgens : s.gens = #[])
    (hspec : ∀ args, c.pre args = true → WData.layableAll args = true →
      ∀ ord : List DictEntry → List DictEntry, (∀ l, (ord l).Perm l) →
      ∃ vs s₁, layAllW c.records (classAt s.heap) w.params ord args s = some (vs, s₁) ∧
        wpF (model c.prog w) callerA (tree vs) (fun fin s' => ∃ f, fin = .done f ∧ (c.Ends s args vs s₁ (.ok f) s' ∧ s'.os = s.os ∧ AllBare s'.gens ∧ kept s'.heap))
          (fun e s' => c.Ends s args vs s₁ (.error e) s' ∧ s'.os = s.os ∧ AllBare s'.gens ∧ kept s'.heap) s₁) :
    c.CallFrom (fun vs => ⟨tree vs, .builtin "claim.caller" {}, default, []⟩) w free gens kept s := by
  intro args hpre hlay ord hord
  obtain ⟨vs, s₁, hlaid, hcode⟩ := hspec args hpre hlay ord hord
  have hal := layAllW_rest _ _ _ hlaid
  obtain ⟨k, r, s', s'', hrun, hsched, hfo, hcase, hos, hkp⟩ := ends_F (prog := c.prog) (w := w) (t := tree vs) (s := s₁)
    (R := fun r s' => c.Ends s args vs s₁ r s' ∧ s'.os = s.os ∧ kept s'.heap) (Shared.asleep_of_life hal.2.2.2 hz)
    (wpF_mono hcode (fun fin s' h => by
      obtain ⟨f, e, h1, h2, h3, h4⟩ := h
      exact ⟨f, e, ⟨h1, h2, h4⟩, leftWithCleanup_false_of_bare h3⟩) (fun e s' h => ⟨⟨h.1, h.2.1, h.2.2.2⟩, leftWithCleanup_false_of_bare h.2.2.1⟩))
  obtain ⟨eh, _, _, eo, _⟩ := Shared.forget_eq hfo
  have hcase := hcase.congr eh
  have hkp : kept s'.heap := by rw [eh]; exact hkp
  have hos' : s'.os = s.os := eo.trans hos
  have hlife : s'.heap.life = s.heap.life := (runN_life _ _ _ hrun).trans hal.2.2.2
  refine ⟨vs, s₁, hlaid, k, _, s', hsched, ?_, (fun _ i x hx => by rw [hgens] at hx; simp at hx), hkp, by rw [hlife], Shared.rest_eq hos'⟩
  rcases hcase with ⟨v, rfl, d1, d2, d3, d4, d5⟩ | ⟨e, ob, cls, rfl, d1, d2, d3, d4, d5⟩
  · exact .inl ⟨v, rfl, d1, d2, d3, fun b o y _ => d4 b o y, d5⟩
  · exact .inr ⟨e, ob, cls, rfl, d1, d2, d3, d4, fun b o y _ => d5 b o y⟩

/-- the walk that is asked: in free contexts alone -/
abbrev WalkF (q : Program) (loose : List Str) (XP : (Str → Option Value) → Heap → Prop) (YP : World → Heap → Prop) (r : RowW) (d : DefRec) (kwd : List (Str × Expr)) : Prop :=
  ∀ (w : World) (s₀ s₁ : Shared) (mg mb : Str → Option Value), Ground q loose r.records XP w s₀ mg mb s₁.heap → YP w s₁.heap → ∀ (a : Addr) (o : Obj) (pm cd doc dV kV : Value), s₁.heap.get? a = some o →
    o.data = .func { docDef d.name d.params d.body d.scope pm cd doc with defaults := dV, kwdefaults := kV } → s₁.heap.CodeRec cd d.name → Dflts mg s₁.heap d.params kwd dV kV → mg d.name = some (.ref a) → s₁.gens = #[] →
    ∀ (args : List WData) (vals : List Value) (as : List Addr), r.claim.pre args = true → WData.layableAll args = true → ReadsAllW r.records (classAt s₀.heap) s₁.heap vals args as → WellAll w.params s₁.heap vals args → (∀ a ∈ as, (a == sysModules) = false) →
      wpF (model r.prog w) callerA (call (.ref a) vals) (fun v s' => GoodWG r.claim (classAt s₀.heap) (ExcName.means s₀.heap) args s₁ (.ok (.ret v)) s')
        (fun e s' => GoodWG r.claim (classAt s₀.heap) (ExcName.means s₀.heap) args s₁ (.error e) s') s₁

theorem holds_F {r : OpenRow} {q : Program} {loose : List Str} {Xt : Shared → Bool} {XP : (Str → Option Value) → Heap → Prop} {α : Type} {Yf : Shared → α} {Ya : World → α} {YP : World → Heap → Prop} {d : DefRec} {kwd : List (Str × Expr)} {N : Nat}
    (left : LeftO r.prog q loose Xt Yf Ya N) (hY : ∀ w s, Yf s = Ya w → YP w s.heap) (hYk : ∀ w h h', YP w h → (∀ b o, h.get? b = some o → h'.get? b = some o) → YP w h')
    (hX : ∀ s, Xt s = true → XP (s.heap.nsMap mainGlobals) s.heap) (hXk : ∀ mg h h', XP mg h → (∀ b o, h.get? b = some o → h'.get? b = some o) → XP mg h')
    (hdef : defOf q r.name = some (d, kwd)) (hp : r.prog.theDef r.name = some (d.params, d.body, d.scope)) (hk : kwWritten? d.params.kwonlyargs d.params.kw_defaults = some kwd) (hRf : ∀ s, Xt s = true → RecFacts r.records s.heap) (hwr : (!r.writes || r.records.isEmpty) = true)
    (k1 : r.wellSaid = true) (ok : (chainsOk q && opensWell r.prog && (frees r.toRowW && r.within.isEmpty)) = true) (hb : r.prog.bare) (hw : r.toRowW.promised)
    (call : WalkF q loose XP YP r.toRowW d kwd) : r.Holds := by
  obtain ⟨ok, k5⟩ := Bool.and_eq_true_iff.mp ok
  obtain ⟨hch, o1⟩ := Bool.and_eq_true_iff.mp ok
  obtain ⟨k5, k6⟩ := Bool.and_eq_true_iff.mp k5
  obtain ⟨hsame, hu, ha, hap, hm⟩ := frees_parts k5
  have hi := ident_freeW hu ha hap
  have hwi : r.toRowW.claim.within = [] := List.isEmpty_iff.mp k6
  refine ⟨k1, hw, ⟨hb, o1, by show r.makers.map _ = []; rw [hm]; rfl⟩, hw.witness, fun w => ⟨(left.behind hX hch w).1, fun s' hs' => ?_⟩⟩
  obtain ⟨s₀, hf, hg0, s, hT, hz, hgens, hg, G00, y⟩ := (left.behind (XP := fun mg h => XP mg h ∧ RecFacts r.records h) (fun s hs => ⟨hX s hs, hRf s hs⟩) hch w).2 s' hs'
  have G0 : Ground q loose [] XP w s (s.heap.nsMap mainGlobals) (s.heap.nsMap builtinsNs) s.heap := ⟨G00.T, G00.B, G00.D, G00.TE, G00.TD, G00.W, G00.X.1, G00.cls, G00.has, G00.apart, G00.once, G00.K⟩
  have RF := G00.X.2
  refine ⟨s₀, hf, hg0, s, hT, fun n hn => ?_, RF.1, RF.2.1, ?_⟩
  · obtain rfl : n = r.name := by split at hn <;> simp_all
    exact pinned_of_view hg G0 hdef hp hk
  have hgens : s.gens = #[] := Array.eq_empty_of_size_eq_zero (beq_iff_eq.mp hgens)
  have G : Ground q loose r.records XP w s _ _ s.heap := RF.ground G0
  refine callFrom_F (c := r.toRowW.claim) (tree := fun vs => do match ← nsGet mainNs r.name with
      | some f => do ret (← PySem.call f vs)
      | none => unsupported "claim.caller:no-such-global") hz hgens fun args hpre hlay ord hord => ?_
  obtain ⟨⟨vs, s₁⟩, hlaid⟩ := Option.isSome_iff_exists.mp (layAllW_isSome (P := w.params) (ord := ord) G.has args r.args s (pre_splitW (r := r.toRowW) hpre).1)
  have keeps := layAllW_keeps _ _ _ hlaid
  have hal := layAllW_rest _ _ _ hlaid
  obtain ⟨as, hrd, hin, hold⟩ := reads_layAllW hord _ _ _ hlaid hlay s₁.heap (fun _ _ e => e)
  have L : Laid r.records w s s₁ args vs as := ⟨⟨ord, hord, hlaid⟩, hrd, hin, hold, keeps, hal.1.trans hgens, hal.2.2.1⟩
  have G₁ := G.keeps hXk keeps
  obtain ⟨a, o, pm, cd, doc, dV, kV, h1, h2, h3, h4, h5⟩ := G₁.fn hdef
  have h := call w s s₁ _ _ G₁ (hYk _ _ _ (hY w s y) keeps) a o pm cd doc dV kV h2 h3 h4 h5 (defOf_name hdef ▸ h1) L.gens args vs as hpre hlay L.reads L.well (L.low G.low)
  refine ⟨vs, s₁, hlaid, ?_⟩
  refine wpF_bind (wpF_of (wpAny_nsGet G₁.T.g ?_))
  rw [h1]
  refine wpF_bind (wpF_mono h (fun v s' g => wpF_pure ⟨_, rfl, ?_⟩) fun e s' g => ?_)
  · have z := GoodWG.laid (c := r.toRowW.claim) hsame hwi hi L g
    exact ⟨z.1, z.2.1, z.2.2, fun q => ⟨namesKept_of hT hg _ keeps g.2.1.old, noTable hwr q⟩⟩
  · have z := GoodWG.laid (c := r.toRowW.claim) hsame hwi hi L g
    exact ⟨z.1, z.2.1, z.2.2, fun q => ⟨namesKept_of hT hg _ keeps g.2.1.old, noTable hwr q⟩⟩
end Mine
end
theorem Mine.reset_FHead : True := by
  w_top off
  trivial
/-! part FRules -/
section
open PySem PySem.W PyProof.Rows PySem.Calls
set_option Elab.async false
set_option maxRecDepth 100000
namespace Mine
abbrev NoE : Value → Shared → Prop := fun _ _ => False

section
variable {M : Model} {A : Around} {E : Value → Shared → Prop} {s : Shared} {env : Env}
theorem wpF_execs_nil {Q : Flow → Shared → Prop} (h : Q .next s) : wpF M A (execs [] env) Q E s := wpF_of (wpAny_execs_nil h)
theorem wpF_execs_cons {st : Stmt} {rest : List Stmt} {Q : Flow → Shared → Prop}
    (h : wpF M A (exec st env) (fun f s' => match f with | .next => wpF M A (execs rest env) Q E s' | f => Q f s') E s) : wpF M A (execs (st :: rest) env) Q E s := by
  rw [execs_cons]
  refine wpF_bind (wpF_mono h (fun f s' h' => ?_) fun _ _ x => x)
  cases f <;> first | exact h' | exact wpF_pure h'
theorem wpF_If {test : Expr} {body orelse : List Stmt} {pos : Pos} {Q : Flow → Shared → Prop}
    (h : wpF M A (isTrue test env (eval test env)) (fun b s₂ => if b then wpF M A (execs body env) Q E s₂ else wpF M A (execs orelse env) Q E s₂) E s) :
    wpF M A (exec (.If test body orelse pos) env) Q E s := by
  rw [exec_If]
  refine wpF_bind (wpF_of (wpAny_standAt ?_))
  refine wpF_bind (wpF_mono h (fun b s₂ h₂ => ?_) fun _ _ x => x)
  cases b <;> exact h₂
theorem wpF_Assign_Name {x : Str} {pos' pos : Pos} {value : Expr} {Q : Flow → Shared → Prop}
    (h : wpF M A (eval value env) (fun v s₁ => wpF M A (storeName env x v) (fun _ => Q .next) E s₁) E s)
    (hs : swapsWith value (some (.Name x pos')) pos.line env = pure false) : wpF M A (exec (.Assign [.Name x pos'] value pos) env) Q E s := by
  rw [exec_Assign_Name env x pos' value pos hs]
  refine wpF_bind (wpF_of (wpAny_standAt ?_))
  refine wpF_bind (wpF_mono h (fun v s₁ h₁ => ?_) fun _ _ x => x)
  refine wpF_bind (wpF_of (wpAny_standAt ?_))
  refine wpF_bind (wpF_mono (Q := fun _ => Q .next) ?_ (fun _ _ q => wpF_pure q) fun _ _ x => x)
  intro Γ p hi hf
  rw [Sem.wp_bindName]
  exact h₁ Γ p hi hf
/-- a call by a plain name -/
theorem wpF_Call {f : Str} {pf : Pos} {args : List Expr} {pos : Pos} {Q : Value → Shared → Prop} {fv : Value}
    (hk : ∃ k, (k = Keeper.frame ∨ k = Keeper.machine) ∧ ∀ (s₁ : Shared) (Q' : Keeper → Shared → Prop), (∀ b o, s.heap.get? b = some o → s₁.heap.get? b = some o) → Q' k s₁ → wpAny M A (keeperOf fv) Q' E s₁)
    (hplain : (backTo pos (starEach args env)).any (·.1) = false)
    (hf : ∀ Q' : Value → Shared → Prop, Q' fv s → wpAny M A (eval (.Name f pf) env) Q' E s)
    (h : wpF M A (evalArgs fv true (backTo pos (starEach args env)) []) (fun a s₁ => (∀ b o, s.heap.get? b = some o → s₁.heap.get? b = some o) ∧ wpF M A (call fv a.pos a.kw) Q E s₁) E s) :
    wpF M A (eval (.Call (.Name f pf) args [] pos) env) Q E s := by
  show wpF M A (do callWith pos (← eval (.Name f pf) env) [] (backTo pos (starEach args env)) []) Q E s
  refine wpF_bind (wpF_of (hf _ ?_))
  unfold callWith
  refine wpF_bind (wpF_holding (wpF_mono h (fun a s₁ h₁ => ?_) fun _ _ x => x))
  refine wpF_bind (wpF_of (wpAny_standAt ?_))
  obtain ⟨k, hk', L⟩ := hk
  simp only [hplain, List.any_nil, Bool.or_false]
  refine wpF_bind (wpF_of (L _ _ h₁.1 ?_))
  have tail : ∀ {t : Sem Value}, wpF M A t Q E s₁ → wpF M A (t >>= fun r => holding [r] point >>= fun _ => pure r) Q E s₁ :=
    fun ht => wpF_bind (wpF_mono ht (fun r s₂ hr => wpF_of (wpAny_bind (wpAny_holding (wpAny_point (wpAny_pure hr))))) fun _ _ x => x)
  have marked (mk : Value) : wpF M A (callMarked mk fv ([] ++ a.pos) a.kw) Q E s₁ := by unfold callMarked; exact wpF_keep h₁.2
  rcases hk' with rfl | rfl <;> dsimp only <;> first | exact tail h₁.2 | (split <;> first | exact tail h₁.2 | exact tail (marked _))
end

section
variable {prog : Program} {w : World} {A : Around} {s : Shared}
theorem codeF_func {body : List Stmt} {env : Env} {R : Result → Shared → Prop}
    (h : wpF (model prog w) (A.deeper env) (execs body env) (fun f s' => R (.ok (.ret (match f with | .ret v => v | _ => .none))) s') NoE s) : codeF (model prog w) A (.func body env) R s := by
  refine codeF_of_tree rfl ?_
  show wpF _ (A.deeper env) (do point; match ← (execs body env).onRaise (leaving env) with | .ret v => ret v | _ => ret .none) _ _ s
  refine wpF_bind (wpF_of (wpAny_point ?_))
  refine wpF_bind (wpF_onRaise (wpF_mono h (fun f s' h' => ?_) fun _ _ h' => h'.elim))
  cases f <;> exact wpF_pure h'
/-- a call of a def of the text's -/
theorem codeF_fn {R : Result → Shared → Prop} {a : Addr} {o : Obj} {fd : FuncData} {body : List Stmt} {args : Args} {binds : List (Str × Value)}
    (hroom : A.depth < recursionLimit) (ho : s.heap.get? a = some o) (hdata : o.data = .func fd) (hlim : s.heap.NoLimit) (hcd : s.heap.CodeRec fd.code fd.qualname)
    (hbody : fd.body = .stmts body) (hbind : BindsTo s fd args binds)
    (hcell : ∀ x ∈ fd.scope.names, x.2 ≠ .cell) (hloc : ∀ x ∈ binds, fd.scope.names.lookup x.1 = some .local)
    (h : ∀ h₀, h₀.Ns s.heap.objs.size (fun x => binds.reverse.lookup x) → (∀ b o, s.heap.get? b = some o → h₀.get? b = some o) →
      wpF (model prog w) (A.deeper (callEnv fd s.heap.objs.size a)) (execs body (callEnv fd s.heap.objs.size a)) (fun f s' => R (.ok (.ret (match f with | .ret v => v | _ => .none))) s') NoE
        { s with heap := h₀, toks := s.toks + binds.length })
    (hco : fd.scope.isCoroutine = false) (hgen : fd.scope.isGenerator = false) (hk : fd.scope.kind = .function) :
    codeF (model prog w) A (.call (.ref a) args) R s := by
  refine codeF_of_tree rfl ?_
  show wpF _ A.in1 (callAny (.ref a) args) _ _ s
  simp only [callAny]
  refine wpF_bind (wpF_of (wpAny_load ho ?_))
  obtain ⟨c, oc, vs, tq, hc, hoc, hdc, hq⟩ := hcd
  simp only [hdata, callFunction, hco, hgen, hbody, hc]
  refine wpF_bind (m := field (.ref c) 1) (wpF_of (wpAny_field hoc hdc hq ?_))
  refine wpF_bind (wpF_pure ?_)
  refine wpF_bind (wpF_of (hbind _ _ _ _ ?_))
  refine wpF_bind (wpF_of (wpAny_newFunctionEnv hcell hloc (fun h₀ hns₀ hsb₀ => ?_) hk))
  refine wpF_bind (wpF_of (wpAny_enterFrame (hlim.fresh _ hsb₀) hroom ?_))
  refine wpF_pure ⟨rfl, codeF_func ?_⟩
  have := h h₀ hns₀ fun b o e => hsb₀.extBut b o (Nat.ne_of_lt (Heap.lt_size e)) (Heap.get?_push_of_some _ e)
  rw [callEnv, hc] at this
  exact this

/-- a for loop over a plain name -/
theorem wpF_For {x : Str} {px pos : Pos} {iter : Expr} {body : List Stmt} {env : Env} {Q : Flow → Shared → Prop} (I : Value → Nat → Shared → Prop)
    (h : wpF (model prog w) A (eval iter env) (fun xv s₁ => wpF (model prog w) A (pyIter xv) (fun it s₂ => ∃ n, I it n s₂) NoE s₁) NoE s)
    (turn : ∀ it n s, I it n s → wpF (model prog w) A (pyNext it) (fun r s₁ => match r with
      | none => Q .next s₁
      | some v => wpF (model prog w) A (storeName env x v) (fun _ s₂ => wpF (model prog w) A (execs body env) (fun f s₃ => match f with
          | .next | .cont => ∃ m, m < n ∧ I it m s₃
          | .brk => Q .next s₃
          | .ret v => Q (.ret v) s₃) NoE s₂) NoE s₁) NoE s)
    (hs : ∀ x, foldedSetIterable iter env x = pure x) : wpF (model prog w) A (exec (.For (.Name x px) iter body [] pos) env) Q NoE s := by
  rw [exec_For]
  refine wpF_bind (wpF_of (wpAny_standAt ?_))
  refine wpF_bind (wpF_mono h (fun xv s₁ h₁ => ?_) fun _ _ x => x)
  refine wpF_bind (wpF_of (wpAny_of_eq (hs xv) ?_))
  refine wpF_bind (wpF_of (wpAny_standAt ?_))
  refine wpF_bind (wpF_holding (wpF_mono h₁ (fun it s₂ h₂ => ?_) fun _ _ x => x))
  obtain ⟨n, hI⟩ := h₂
  unfold runOwn
  refine wpF_onRaise (wpF_run ?_)
  refine codeF_mono (R := fun r s' => match r with | .ok f => Q f s' | .error e => False) (codeF_loop rfl rfl (I it) (fun n s hI => ?_) n hI) (fun r s' hr => ?_)
  · show wpF _ A ((forTurn (.Name x px) it body [] env).onRaise (fun x => do noteFrame x env; theTreesLotGoes x)) _ _ s
    refine wpF_onRaise (wpF_mono (E := NoE) ?_ (fun _ _ h => h) fun _ _ h => h.elim)
    simp only [forTurn]
    refine wpF_bind (wpF_of (wpAny_standAt ?_))
    refine wpF_bind (wpF_onRaise (wpF_mono (turn it n s hI) (fun r s₁ h₁ => ?_) fun _ _ h' => h'.elim))
    cases r with
    | none =>
      refine wpF_pure (.inr ⟨rfl, codeF_of (codeAny_block (wpAny_execs_nil h₁))⟩)
    | some v =>
      refine wpF_bind (wpF_of (wpAny_of_eq (rfl : letOwnedTupleGo (.Name x px) it v = pure ()) ?_))
      refine wpF_bind (wpF_mono (Q := fun _ s₂ => wpF (model prog w) A (execs body env) (fun f s₃ => match f with
          | .next | .cont => ∃ m, m < n ∧ I it m s₃
          | .brk => Q .next s₃
          | .ret v => Q (.ret v) s₃) NoE s₂) ?_ (fun _ s₂ h₂ => ?_) fun _ _ x => x)
      · rw [PySem.assign_Name]
        refine wpF_bind (wpF_of (wpAny_standAt ?_))
        intro Γ p hi hf
        rw [Sem.wp_bindName]
        exact h₁ Γ p hi hf
      · refine wpF_bind (wpF_mono h₂ (fun f s₃ h₃ => ?_) fun _ _ x => x)
        cases f with
        | next => exact wpF_pure (.inl ⟨rfl, h₃⟩)
        | cont => exact wpF_pure (.inl ⟨rfl, h₃⟩)
        | brk => exact wpF_pure h₃
        | ret v => exact wpF_pure h₃
  · cases r with
    | ok f => exact hr
    | error e => exact hr.elim
end
end Mine
end
theorem Mine.reset_FRules : True := by
  w_top off
  trivial
/-! part Bya0 -/
section
open PySem PySem.W PyProof.Rows PySem.Calls
set_option Elab.async false
set_option maxRecDepth 100000
namespace Mine
section
variable {α : Type} {M : Model} {A : Around} {E : Value → Shared → Prop} {s : Shared}
theorem wpF_of_eq {t : Sem α} {a : α} {Q : α → Shared → Prop} (e : t = pure a) (h : Q a s) : wpF M A t Q E s := by rw [e]; exact wpF_pure h
theorem wpF_if_false {c : Bool} {a b : Sem α} {Q : α → Shared → Prop} (hc : c = false) (h : wpF M A b Q E s) : wpF M A (if c = true then a else b) Q E s := by subst hc; exact h
theorem wpF_if_true {c : Bool} {a b : Sem α} {Q : α → Shared → Prop} (hc : c = true) (h : wpF M A a Q E s) : wpF M A (if c = true then a else b) Q E s := by subst hc; exact h
end
theorem ba_mro : mroOf (.type "bytearray") = pure [.type "bytearray", .type "object"] := by rw [mroOf_type]; kernel_rfl
theorem ba_lookup_new : typeLookup (.type "bytearray") "__new__" = pure (some (.builtin "bytearray.__new__")) := by rw [typeLookup_type, builtinLookup_eq_fast]; kernel_rfl
theorem ba_slot_init : Slot "bytearray" "__init__" "bytearray.__init__" :=
  .of (owner := "bytearray") (n := "__init__") (by rw [typeLookup_type, builtinLookup_eq_fast]; kernel_rfl) (by decide +kernel) (by decide +kernel) (by decide +kernel)
    (by first | exact .inl (by decide +kernel) | exact .inr (by decide +kernel)) (by rw [isSubtype_type]; kernel_rfl)
theorem ba_sub : isSubtype (.type "bytearray") (.type "bytearray") = pure true := by rw [isSubtype_type]; kernel_rfl
theorem ba_called : TypeCalled "bytearray" "bytearray.__new__" "bytearray.__init__" :=
  ⟨by decide +kernel, by decide +kernel, ⟨_, _, ba_mro⟩, madeBy_type ba_mro ba_lookup_new (by decide +kernel), by decide +kernel, ba_sub, ba_slot_init⟩
theorem ba_typeCall (a : Value) : checkTypeCall "bytearray" ⟨[a], []⟩ = pure () := by kernel_rfl
theorem ba_newCall (a : Value) : checkBuiltinCall "bytearray.__new__" ⟨[.type "bytearray", a], []⟩ = pure () := by kernel_rfl
theorem ba_entry_new : entryFor table "bytearray.__new__" = some Builtin.«list.__new__» :=
  entryFor_alias (id' := "list.__new__") (by kernel_rfl) (by first | rfl | decide +kernel) (by decide +kernel) (by kernel_rfl)
theorem ba_entry_init : entryFor table "bytearray.__init__" = some Builtin.«bytearray.__init__» := by first | exact entryFor_of_fast (by kernel_rfl) | exact entryFor_of_tree (by kernel_rfl)
theorem ba_plain_new : plainId "bytearray.__new__" = true := by decide +kernel
set_option maxRecDepth 1000000 in
set_option maxHeartbeats 4000000 in
theorem ba_owner : ("bytearray.__new__".splitOn ".__new__").headD "" = "bytearray" := by simp +decide [String.splitOn, String.splitOnAux]

section
variable {prog : Program} {w : World} {A : Around} {E : Value → Shared → Prop} {s : Shared}
abbrev baObj (b : Array UInt8) : Obj := { cls := .type "bytearray", data := .bytearray b }
theorem ba_new (a : Value) {Q₁ : Value → Shared → Prop}
    (h : Q₁ (.ref s.heap.objs.size) { s with heap := s.heap.push (baObj #[]) }) :
    codeAny (model prog w) A (.call (.builtin "bytearray.__new__") ⟨[.type "bytearray", a], []⟩) (wants Q₁ E) s := by
  refine codeAny_of_tree ?_
  show wpAny _ A.in1 (do checkBuiltinCall "bytearray.__new__" ⟨[.type "bytearray", a], []⟩; again (.builtin "bytearray.__new__" ⟨[.type "bytearray", a], []⟩)) _ _ s
  refine wpAny_bind (wpAny_of_eq (ba_newCall a) (wpAny_pure ⟨plainId_quiet ba_plain_new _, codeAny_builtin_stack ba_entry_new rfl fun p st => ?_⟩))
  rw [Around.under_plainId ba_plain_new _]
  have hsub := ba_sub
  have hown := ba_owner
  obtain ⟨hp, g, d, tk, os⟩ := s
  simp only [hown]
  wp_walk
  exact h

theorem codeF_builtin {i : String} {args : Args} {b : Builtin} {R : Result → Shared → Prop} (hn : noHold (.builtin i args) = true) (hb : entryFor table i = some b)
    (h : wpF (model prog w) (A.under (.builtin i args)) (b args)
      (fun fin s' => match fin with | .done f => R (.ok f) s' | .again c' => c'.quiet = true ∧ codeF (model prog w) A c' R s') (fun e s' => R (.error e) s') s) :
    codeF (model prog w) A (.builtin i args) R s := by
  refine codeF_of_tree hn ?_
  show wpF _ _ (match entryFor table i with | some b => b args | none => unsupported ((withoutEnding? i "#data").getD i)) _ _ s
  rw [hb]; exact h


end
theorem ba_slot_len : Slot "bytearray" "__len__" "bytearray.__len__" :=
  .of (owner := "bytearray") (n := "__len__") (by rw [typeLookup_type, builtinLookup_eq_fast]; kernel_rfl) (by decide +kernel) (by decide +kernel) (by decide +kernel)
    (by first | exact .inl (by decide +kernel) | exact .inr (by decide +kernel)) (by rw [isSubtype_type]; kernel_rfl)
theorem ba_slot_set : Slot "bytearray" "__setitem__" "bytearray.__setitem__" :=
  .of (owner := "bytearray") (n := "__setitem__") (by rw [typeLookup_type, builtinLookup_eq_fast]; kernel_rfl) (by decide +kernel) (by decide +kernel) (by decide +kernel)
    (by first | exact .inl (by decide +kernel) | exact .inr (by decide +kernel)) (by rw [isSubtype_type]; kernel_rfl)
theorem ba_entry_set : entryFor table "bytearray.__setitem__" = some Builtin.«bytearray.__setitem__» := by first | exact entryFor_of_fast (by kernel_rfl) | exact entryFor_of_tree (by kernel_rfl)
theorem ba_lookup_release : typeLookup (.type "bytearray") "__release_buffer__" = pure (some (.builtin "bytearray.__release_buffer__")) := by rw [typeLookup_type, builtinLookup_eq_fast]; kernel_rfl
theorem ba_lookup_buffer : typeLookup (.type "bytearray") "__buffer__" = pure (some (.builtin "bytearray.__buffer__")) := by rw [typeLookup_type, builtinLookup_eq_fast]; kernel_rfl
theorem ba_lookup_bytes : typeLookup (.type "bytearray") "__bytes__" = pure none := by rw [typeLookup_type, builtinLookup_eq_fast]; kernel_rfl
theorem ba_lookup_index : typeLookup (.type "bytearray") "__index__" = pure none := by rw [typeLookup_type, builtinLookup_eq_fast]; kernel_rfl
theorem ba_bind (v : Value) : Builtin.Bytes.bindOptional "bytearray.__init__" "bytearray" ["source", "encoding", "errors"] [v] [] = pure [some v, none, none] := by kernel_rfl
theorem int_lookup_index : typeLookup (.type "int") "__index__" = pure (some (.builtin "int.__index__")) := by rw [typeLookup_type, builtinLookup_eq_fast]; kernel_rfl
theorem ba_owner_sig : Manifest.owners.lookup (String.ofList "bytearray".toList.reverse.reverse) = some Manifest.sig_bytearray := by kernel_rfl
theorem ba_args_init (a b : Value) : argsOk "bytearray.__init__" ⟨[a, b], []⟩ := by
  unfold argsOk; rw [signature?_of (id := "bytearray.__init__") (n := "__init__".toList.reverse) (o := "bytearray".toList.reverse) (by kernel_rfl) ba_owner_sig]; kernel_rfl
theorem ba_args_set (a b c : Value) : argsOk "bytearray.__setitem__" ⟨[a, b, c], []⟩ := by
  unfold argsOk; rw [signature?_of (id := "bytearray.__setitem__") (n := "__setitem__".toList.reverse) (o := "bytearray".toList.reverse) (by kernel_rfl) ba_owner_sig]; kernel_rfl
theorem ba_ends_release : ("bytearray.__release_buffer__".endsWith ("." ++ "__release_buffer__")) = true := by decide +kernel
theorem ba_drop_release : ("bytearray.__release_buffer__".dropRight ("__release_buffer__".length + 1)) = "bytearray" := by decide +kernel
theorem ba_ends_buffer : ("bytearray.__buffer__".endsWith ("." ++ "__buffer__")) = true := by decide +kernel
theorem ba_drop_buffer : ("bytearray.__buffer__".dropRight ("__buffer__".length + 1)) = "bytearray" := by decide +kernel
end Mine
end
theorem Mine.reset_Bya0 : True := by
  w_top off
  trivial
/-! part Bya -/
section
open PySem PySem.W PyProof.Rows PySem.Calls
set_option Elab.async false
set_option maxRecDepth 100000
namespace Mine
theorem noHold_id {i : String} {args : Args} (h : holders.contains i = false) : noHold (.builtin i args) = true := by show (!holders.contains i) = true; rw [h]; rfl
section
variable {prog : Program} {w : World} {A : Around} {E : Value → Shared → Prop} {s : Shared}
theorem ba_type {a : Addr} {b : Array UInt8} (h : s.heap.get? a = some (baObj b)) : s.TypeIs (.ref a) "bytearray" := ⟨_, h, rfl⟩

theorem wpF_exported {M : Model} {v : Value} {Q : Bool → Shared → Prop} (h : Q false s) : wpF M A (Builtin.Bytes.exported v) Q E s := by
  intro Γ p hi hf
  unfold Builtin.Bytes.exported
  show Q (List.any ((Γ.code, p) :: Γ.below) _) s
  have key : ∀ (l : List (Code × Pos)) (f : Code × Pos → Bool), (∀ x ∈ l, noHold x.1 = true) → (∀ x, noHold x.1 = true → f x = false) → l.any f = false := fun l f h1 h2 => by
    rw [List.any_eq_false]
    intro x hx
    rw [h2 x (h1 x hx)]
    exact Bool.false_ne_true
  rw [key]
  · exact h
  · intro x hx
    rcases List.mem_cons.mp hx with rfl | hx
    · exact hf.1
    · exact hf.2 x hx
  · intro x hx
    obtain ⟨c, q⟩ := x
    cases c with
    | builtin i args =>
      have hc : holders.contains i = false := by simpa [noHold] using hx
      have hne : ∀ j, holders.contains j = true → i ≠ j := fun j hj e => by rw [e, hj] at hc; cases hc
      obtain ⟨ps, kw⟩ := args
      have hd : Builtin.Bytes.decodersThatHold.contains i = false := by
        cases hb : Builtin.Bytes.decodersThatHold.contains i with
        | false => rfl
        | true =>
          have : holders.contains i = true := by
            unfold holders
            rw [List.contains_iff_mem] at hb ⊢
            exact List.mem_append_right _ hb
          rw [hc] at this; cases this
      split
      all_goals (first | rfl | (exfalso; rename_i heq; cases heq; exact hne _ (by decide +kernel) rfl) | (rename_i heq; cases heq; rw [hd, Bool.and_false]))
    | _ => rfl

theorem ba_ownRelease {M : Model} {a : Addr} {b : Array UInt8} {Q : Bool → Shared → Prop} (hg : s.heap.get? a = some (baObj b)) (h : Q false s) : wpAny M A (Builtin.Bytes.ownRelease (.ref a)) Q E s := by
  unfold Builtin.Bytes.ownRelease Builtin.Bytes.slotIsOwn
  refine wpAny_bind (wpAny_bind (wpAny_specialOf (ba_type hg) ba_lookup_release ?_))
  dsimp only
  rw [ba_ends_release]
  refine wpAny_ite_false rfl ?_
  rw [ba_drop_release]
  exact wpAny_isInstance (ba_type hg) ba_sub (wpAny_pure h)
theorem ba_write {M : Model} {a : Addr} {b : Array UInt8} {f : Array UInt8 → Array UInt8} {Q : Unit → Shared → Prop} (hg : s.heap.get? a = some (baObj b)) (hz : (f b).size ≤ sizeLine)
    (h : ∀ h', h'.get? a = some (baObj (f b)) → Heap.SameBut a s.heap h' → Q () { s with heap := h' }) : wpAny M A (Builtin.Bytes.write (.ref a) f) Q E s := by
  show wpAny M A (updateBytearray a f) Q E s
  unfold updateBytearray
  refine wpAny_bind (wpAny_load hg ?_)
  show wpAny M A (update a (Obj.mapBytearray f) >>= fun _ => lookBehind a) Q E s
  refine wpAny_bind (wpAny_update hg ?_)
  have hg' : (s.heap.update a (Obj.mapBytearray f)).get? a = some (baObj (f b)) := Heap.get?_update_self (Obj.mapBytearray f) hg rfl
  refine wpAny_lookBehind hg' ?_ (h _ hg' (Heap.SameBut.update ..))
  show (if (f b).size > sizeLine then some "bytearray:memory" else none) = none
  rw [if_neg (Nat.not_lt.mpr hz)]
theorem ba_call {n : Int} {t : Tok} {Q : Value → Shared → Prop} (h0 : 0 < n) (h1 : n ≤ 1000)
   (hq : ∀ h', h'.get? s.heap.objs.size = some (baObj (Array.replicate n.toNat 0)) → (∀ b o, s.heap.get? b = some o → h'.get? b = some o) → Q (.ref s.heap.objs.size) { s with heap := h' }) :
    wpF (model prog w) A (call (.type "bytearray") [.int n t]) Q NoE s := by
  refine wpF_call (codeF_of_tree rfl ?_)
  show wpF _ _ (callAny (.type "bytearray") _) _ _ _
  refine wpF_pure ⟨Code.quiet_builtin _ (by decide +kernel), codeF_builtin (noHold_id (by decide +kernel)) F.entry_type_call ?_⟩
  rw [Around.under_plain (weight_type_call_type "bytearray" _ []) rfl]
  unfold Builtin.«type.__call__»
  dsimp only
  refine wpF_if_false (by decide +kernel) ?_
  refine wpF_if_false ba_called.canCreate ?_
  refine wpF_bind (wpF_of_eq (ba_typeCall _) ?_)
  refine wpF_bind (wpF_of_eq ba_mro ?_)
  refine wpF_if_false rfl ?_
  refine wpF_bind (wpF_of_eq ba_called.made ?_)
  dsimp only
  refine wpF_bind (wpF_pure ?_)
  refine wpF_bind (wpF_holding (wpF_call (codeF_mono (codeF_of (ba_new (Q₁ := fun v s' => v = .ref s.heap.objs.size ∧ s' = { s with heap := s.heap.push (baObj #[]) }) (E := NoE) _ ⟨rfl, rfl⟩)) fun r s' hr => ?_)))
  cases r with
  | error e => exact hr.elim
  | ok fl => cases fl with
    | ret obj =>
      obtain ⟨rfl, rfl⟩ := hr
      generalize ha : s.heap.objs.size = a at *
      have hg : (s.heap.push (baObj #[])).get? a = some (baObj #[]) := by rw [← ha]; exact Heap.get?_push_size _ rfl
      have hT : ({ s with heap := s.heap.push (baObj #[]) } : Shared).TypeIs (.ref a) "bytearray" := ba_type (s := { s with heap := s.heap.push (baObj #[]) }) hg
      refine wpF_bind (wpF_of (wpAny_isInstance hT ba_sub ?_))
      refine wpF_if_false rfl ?_
      refine wpF_bind (wpF_holding ?_)
      unfold callSpecial?
      refine wpF_bind (wpF_of (wpAny_specialOf hT ba_slot_init.lookup ?_))
      dsimp only
      refine wpF_holding (wpF_bind (wpF_of_eq (ba_slot_init.bind _) ?_))
      dsimp only
      refine wpF_bind (wpF_call (codeF_of_tree rfl ?_))
      show wpF _ _ (do checkBuiltinCall "bytearray.__init__" ⟨[.ref a, .int n t], []⟩; again (.builtin "bytearray.__init__" ⟨[.ref a, .int n t], []⟩)) _ _ _
      refine wpF_bind (wpF_of (ba_slot_init.check _ _ _ _ _ _ _ _ hT ?_ ?_))
      · exact ba_args_init _ _
      refine wpF_pure ⟨plainId_quiet ba_slot_init.plain _, codeF_builtin (noHold_id (by decide +kernel)) ba_entry_init ?_⟩
      rw [Around.under_plainId ba_slot_init.plain _]
      unfold Builtin.«bytearray.__init__»
      dsimp only
      refine wpF_bind (wpF_of (ba_ownRelease hg ?_))
      refine wpF_if_false rfl ?_
      refine wpF_bind (wpF_of_eq (ba_bind _) ?_)
      dsimp only
      refine wpF_bind (wpF_of_eq (a := ()) rfl ?_)
      refine wpF_bind (wpF_of_eq (a := ()) rfl ?_)
      refine wpF_bind (Q := _) ?_
      unfold orM
      refine wpF_bind (wpF_exported ?_)
      refine wpF_of ?_
      show wpAny _ _ (Builtin.Bytes.exportsOf (Value.ref a) >>= fun n => pure (decide (n > 0))) _ _ _
      refine wpAny_bind ?_
      unfold Builtin.Bytes.exportsOf
      refine wpAny_bind (wpAny_load hg ?_)
      refine wpAny_pure (wpAny_pure ?_)
      refine wpF_of ?_
      refine wpAny_ite_false rfl ?_
      refine wpAny_bind (ba_write hg (by simp) fun h2 hg2 hs2 => ?_)
      refine wpAny_bind (wpAny_pure ?_)
      refine wpAny_ite_false rfl ?_
      dsimp only
      refine wpAny_bind ?_
      refine wpAny_ite_false rfl (wpAny_ite_false rfl (wpAny_pure ?_))
      refine wpAny_bind (wpAny_specialOf (typeIs_int _ _ _) int_lookup_index ?_)
      refine wpAny_ite_true rfl ?_
      refine wpAny_bind (wpAny_attempt (wpAny_of_eq (a := n) rfl ?_))
      dsimp only
      refine wpAny_ite_false (by unfold Builtin.Bytes.fitsIndex; simp; omega) ?_
      rw [if_neg (by omega)]
      refine wpAny_ite_false (by simp; omega) ?_
      refine wpAny_ite_false (by unfold Builtin.Bytes.tooLong; simp [sizeLine_eq]; omega) ?_
      refine wpAny_bind (wpAny_rule ?_)
      rw [if_pos (by omega)]
      refine wpAny_bind (ba_write hg2 (by simp [sizeLine_eq]; omega) fun h3 hg3 hs3 => ?_)
      refine wpAny_pure ?_
      dsimp only
      refine wpF_pure ?_
      dsimp only
      refine wpF_if_false rfl ?_
      refine wpF_pure (hq h3 hg3 fun b o e => ?_)
      have hne : b ≠ a := by rw [← ha]; exact Nat.ne_of_lt (Heap.lt_size e)
      exact hs3.extBut b o hne (hs2.extBut b o hne (Heap.get?_push_of_some _ e))
    | next => exact hr.elim
    | brk => exact hr.elim
    | cont => exact hr.elim
end
end Mine
end
theorem Mine.reset_Bya : True := by
  w_top off
  trivial
/-! part FLoop -/
section
open PySem PySem.W PyProof.Rows PySem.Calls
set_option Elab.async false
set_option maxRecDepth 100000
namespace Mine
section
variable {prog : Program} {w : World} {A : Around} {s : Shared} {h₀ : Heap} {env : Env}

/-- what a turn's end shows -/
def TurnEnd (h₀ : Heap) (L : Addr) (I : Addr) (oI : Obj) (J : (Str → Option Value) → List (Addr × Obj) → Prop) (s s' : Shared) : Prop :=
  ∃ h' tk' m₂ news₂, s' = { s with heap := h', toks := tk' } ∧ Fr h₀ L h' m₂ ∧ News h₀ L h' ((I, oI) :: news₂) ∧ (∀ p ∈ news₂, p.1 ≠ I) ∧ J m₂ news₂

structure LoopF (prog : Program) (w : World) (A : Around) (h₀ : Heap) (env : Env) (x : Str) (body : List Stmt) (Q : Flow → Shared → Prop) (I : Addr) (s : Shared)
    (fp : List Addr) (n : Nat) (P : Nat → Value → Prop) (St : Nat → Heap → Prop) (S : List (Addr × Obj) → Prop) (J : Nat → (Str → Option Value) → List (Addr × Obj) → Prop) (m : Str → Option Value) (news : List (Addr × Obj)) : Prop where
  W : Walks prog w A I fp [I] n P St
  hIo : ∀ i h, St i h → ∃ o, h.get? I = some o
  hSt : ∀ i h h' o nw, St i h → h.get? I = some o → h'.get? I = some o → (∀ b o, h₀.get? b = some o → h'.get? b = some o) → News h₀ env.locals h' nw → S nw → St i h'
  st : St 0 s.heap
  F : Fr h₀ env.locals s.heap m
  N : News h₀ env.locals s.heap news
  hIL : env.locals ≠ I
  hI₀ : h₀.get? I = none
  off : ∀ p ∈ news, p.1 ≠ I
  hJS : ∀ i m nw, J i m nw → S nw
  h0 : J 0 m news
  turn : ∀ i v m₁ news₁ oI h tk, i < n → P i v → J i m₁ news₁ → Fr h₀ env.locals h (fun y => if y = x then some v else m₁ y) → News h₀ env.locals h ((I, oI) :: news₁) → (∀ p ∈ news₁, p.1 ≠ I) →
    wpF (model prog w) A (execs body env) (fun f s' => match f with
      | .next | .cont => TurnEnd h₀ env.locals I oI (J (i + 1)) s s'
      | .brk => Q .next s'
      | .ret v => Q (.ret v) s') NoE { s with heap := h, toks := tk }
  done : ∀ h' tk m' news', Fr h₀ env.locals h' m' → News h₀ env.locals h' news' → J n m' news' → Q .next { s with heap := h', toks := tk }

theorem wpF_ForW {x : Str} {px pos : Pos} {iter : Expr} {body : List Stmt} {Q : Flow → Shared → Prop} (hx : env.kindOf x = some .local)
    (hp : (env.scope.kind == .class || (env.scope.kind == .module && env.locals != env.globals)) = false)
    (h : wpF (model prog w) A (eval iter env) (fun xv s₁ => wpF (model prog w) A (pyIter xv) (fun it s₂ => ∃ I fp n P St S J m news, it = .ref I ∧ LoopF prog w A h₀ env x body Q I s₂ fp n P St S J m news) NoE s₁) NoE s)
    (hs : ∀ x, foldedSetIterable iter env x = pure x) : wpF (model prog w) A (exec (.For (.Name x px) iter body [] pos) env) Q NoE s := by
  refine wpF_For (fun it k s' => ∃ I s₂ fp n P St S J m news, it = .ref I ∧ LoopF prog w A h₀ env x body Q I s₂ fp n P St S J m news ∧
    ∃ i h' tk' m' news', s' = { s₂ with heap := h', toks := tk' } ∧ i ≤ n ∧ k = n + 1 - i ∧ St i h' ∧ Fr h₀ env.locals h' m' ∧ News h₀ env.locals h' news' ∧ (∀ p ∈ news', p.1 ≠ I) ∧ J i m' news')
    (wpF_mono h (fun xv s₁ h₁ => wpF_mono h₁ (fun it s₂ h₂ => ?_) fun _ _ x => x) fun _ _ x => x) ?_ hs
  · obtain ⟨I, fp, n, P, St, S, J, m, news, e, X⟩ := h₂
    exact ⟨n + 1, I, s₂, fp, n, P, St, S, J, m, news, e, X, 0, s₂.heap, s₂.toks, m, news, rfl, Nat.zero_le _, rfl, X.st, X.F, X.N, X.off, X.h0⟩
  · rintro it k s' ⟨I, s₂, fp, n, P, St, S, J, m, news, rfl, X, i, h', tk', m', news', rfl, hi, rfl, hst, F', N', off', hJ⟩
    have keepF : ∀ h₁, (∀ b o, b ∉ [I] → h'.get? b = some o → h₁.get? b = some o) → Fr h₀ env.locals h₁ m' := fun h₁ hk => LCg.fr_but F' hk X.hIL X.hI₀
    have keepN : ∀ h₁, (∀ b o, b ∉ [I] → h'.get? b = some o → h₁.get? b = some o) → News h₀ env.locals h₁ news' := fun h₁ hk => LCg.news_but N' hk off'
    by_cases hlt : i < n
    · refine wpF_of (X.W.item i _ _ _ hlt hst fun v h₁ tk₁ hP hst₁ hk₁ => ?_)
      have F₁ := keepF h₁ hk₁
      have N₁ := keepN h₁ hk₁
      refine wpF_of (wpAny_storeName_local hx F₁.ns (fun h₂ hn₂ hs₂ => ?_) hp)
      have F₂ := F₁.set hn₂ hs₂
      have N₂ := N₁.set hs₂
      obtain ⟨oI, heI⟩ := X.hIo _ _ hst₁
      have heI₂ : h₂.get? I = some oI := hs₂.extBut I oI (Ne.symm X.hIL) heI
      have N₂' : News h₀ env.locals h₂ ((I, oI) :: news') := fun p hp => by
        rcases List.mem_cons.mp hp with rfl | hp
        · exact ⟨heI₂, Ne.symm X.hIL, X.hI₀⟩
        · exact N₂ p hp
      refine wpF_mono (X.turn i v m' news' oI h₂ _ hlt hP hJ F₂ N₂' off') (fun f s₃ h₃ => ?_) fun _ _ x => x
      have next : TurnEnd h₀ env.locals I oI (J (i + 1)) s₂ s₃ → ∃ k, k < n + 1 - i ∧ ∃ I' s₂' fp n P St S J m news, Value.ref I = .ref I' ∧ LoopF prog w A h₀ env x body Q I' s₂' fp n P St S J m news ∧
          ∃ i h' tk' m' news', s₃ = { s₂' with heap := h', toks := tk' } ∧ i ≤ n ∧ k = n + 1 - i ∧ St i h' ∧ Fr h₀ env.locals h' m' ∧ News h₀ env.locals h' news' ∧ (∀ p ∈ news', p.1 ≠ I') ∧ J i m' news' := by
        rintro ⟨h₃', tk₃, m₃, news₃, rfl, F₃, N₃, off₃, hJ₃⟩
        have N₃' : News h₀ env.locals h₃' news₃ := fun p hp => N₃ p (.tail _ hp)
        exact ⟨n + 1 - (i + 1), by omega, I, s₂, fp, n, P, St, S, J, m, news, rfl, X, i + 1, h₃', tk₃, m₃, news₃, rfl, hlt, rfl,
          X.hSt _ _ _ _ _ hst₁ heI (N₃ _ (.head _)).1 F₃.keep N₃' (X.hJS _ _ _ hJ₃), F₃, N₃', off₃, hJ₃⟩
      cases f with
      | next => exact next h₃
      | cont => exact next h₃
      | brk => exact h₃
      | ret v => exact h₃
    · obtain rfl : i = n := by omega
      refine wpF_of (X.W.done _ _ _ hst fun h₁ tk₁ hk₁ => ?_)
      exact X.done h₁ tk₁ m' news' (keepF h₁ hk₁) (keepN h₁ hk₁) hJ
end
end Mine
end
theorem Mine.reset_FLoop : True := by
  w_top off
  trivial
/-! part FDef -/
section
open PySem PySem.W PyProof.Rows PySem.Calls
set_option Elab.async false
set_option maxRecDepth 100000
namespace Mine
theorem codeF_def {prog : Program} {w : World} {A₀ A : Around} {s : Shared} {K : Frag} {L : Addr} {h₀ base : Heap} {m mg mb : Str → Option Value} {news : List (Addr × Obj)} {p : Program} {loose : List Str} {mean : ExcName → Option Value}
    {env : Env} {outer : List Env} {R : Result → Shared → Prop} {name qual : Str} {params : Arguments} {body : List Stmt} {scope : Scope} {dV kV doc pm cdv ct oc : Value} {an od : Option Addr} {osl : Array (Option Value)} {f : Addr} {args : Args} {binds : List (Str × Value)}
    (B : Below A₀ base outer h₀) (F : Fr h₀ L s.heap m) (X₀ : K.In h₀) (N : News h₀ L s.heap news) (T : Top p loose mean mg mb h₀) (hA : A.frames = some (env :: outer)) (hf : env.frame = some L) (hke : env.scope.kind = .function)
    (ho : K.lookup f = some ⟨oc, od, .func (fnOf name qual params body scope dV kV doc pm an cdv ct), osl⟩) (hcd : codeIn K cdv qual = true) (hroom : A.depth < recursionLimit)
    (hbind : BindsTo s (fnOf name qual params body scope dV kV doc pm an cdv ct) args binds) (hloc : ∀ y ∈ binds, scope.names.lookup y.1 = some .local)
    (h : ∀ g L' h₁, Fr h₀ L g m → Fr g L' h₁ (fun y => binds.reverse.lookup y) → News g L' h₁ news → Below A base (env :: outer) g → K.In g → Top p loose mean mg mb g →
      wpF (model prog w) (A.deeper (envOf qual scope L' f cdv)) (execs body (envOf qual scope L' f cdv))
        (fun fl s' => LeaveK h₀ L m g R (match fl with | .ret v => v | _ => .none) s') NoE
        { s with heap := h₁, toks := s.toks + binds.length })
    (hco : scope.isCoroutine = false) (hgen : scope.isGenerator = false) (hk : scope.kind = .function)
    (hcell : ∀ x ∈ scope.names, x.2 ≠ .cell) : codeF (model prog w) A (.call (.ref f) args) R s := by
  obtain ⟨FG, BG, st, lv⟩ := groundX (R := R) B F N hA hf hke
  refine codeF_fn (fd := fnX name qual params body scope [] dV kV doc pm an cdv ct) (body := body) (binds := binds) hroom ((X₀.keeps F.keep) _ _ ho) rfl (T.nolimit.keeps F.keep) (codeRec_of (X₀.keeps F.keep) hcd) rfl hbind hcell hloc (fun h₁ hns hk₁ => ?_) hco hgen hk
  exact wpF_mono (h _ s.heap.objs.size h₁ FG ⟨hns, fun b o e => hk₁ b o (of_hideAll _ e), Nat.le_of_eq (hideAll_size _ _)⟩
    (fun p hp => ⟨hk₁ _ _ (N p hp).1, Nat.ne_of_lt (Heap.lt_size (N p hp).1), hideAll_none _ (List.mem_map_of_mem hp)⟩) BG (X₀.keeps st) (T.keeps st)) (fun fl s' hl => lv _ _ hl) fun _ _ y => y
theorem wpF_Call1 {M : Model} {A : Around} {E : Value → Shared → Prop} {s : Shared} {env : Env} {f : Str} {pf : Pos} {e : Expr} {rest : List Expr} {pos : Pos} {Q : Value → Shared → Prop} {fv : Value}
    (hk : ∃ k, (k = Keeper.frame ∨ k = Keeper.machine) ∧ ∀ (s₁ : Shared) (Q' : Keeper → Shared → Prop), (∀ b o, s.heap.get? b = some o → s₁.heap.get? b = some o) → Q' k s₁ → wpAny M A (keeperOf fv) Q' E s₁)
    (hf : ∀ Q' : Value → Shared → Prop, Q' fv s → wpAny M A (eval (.Name f pf) env) Q' E s)
    (h : wpAny M A (spliced (backTo pos (starEach (e :: rest) env))) (fun vs s₁ => Stop ((∀ b o, s.heap.get? b = some o → s₁.heap.get? b = some o) ∧ wpF M A (call fv vs) Q E s₁)) E s)
    (he : starEach (e :: rest) env = (false, eval e env) :: starEach rest env := by rfl) (hplain : (backTo pos (starEach rest env)).any (·.1) = false := by rfl) :
    wpF M A (eval (.Call (.Name f pf) (e :: rest) [] pos) env) Q E s := by
  refine wpF_Call hk ?_ hf (wpF_of ?_)
  · rw [he]; show (false || (backTo pos (starEach rest env)).any (·.1)) = false; rw [hplain]; rfl
  · rw [he] at h ⊢
    exact evalArgs_plain (wpAny_mono h (fun _ _ x => x.out) fun _ _ x => x)
end Mine
end
theorem Mine.reset_FDef : True := by
  w_top off
  trivial
/-! part FLoop2 -/
section
open PySem PySem.W PyProof.Rows PySem.Calls
set_option Elab.async false
set_option maxRecDepth 100000
namespace Mine
section
variable {prog : Program} {w : World} {A : Around} {s : Shared} {h₀ : Heap} {env : Env}
abbrev LoopEx (prog : Program) (w : World) (A : Around) (h₀ : Heap) (env : Env) (x : Str) (body : List Stmt) (Q : Flow → Shared → Prop) (it : Value) (s₂ : Shared) : Prop :=
  ∃ I fp n P St S J m news, it = .ref I ∧ LoopF prog w A h₀ env x body Q I s₂ fp n P St S J m news
theorem loopF_range {x : Str} {body : List Stmt} {Q : Flow → Shared → Prop} {r : Addr} {a b c : Int} {t u v : Tok} {n : Nat} {m : Str → Option Value} {news : List (Addr × Obj)} (J : Nat → (Str → Option Value) → List (Addr × Obj) → Prop)
    (hh : A.handled = none) (hr : IsRange s.heap r a b c t u v) (hsmall : Builtin.Range.small a b c = true) (hn : Builtin.Range.rangeSize a b c = (n : Int)) (F : Fr h₀ env.locals s.heap m) (N : News h₀ env.locals s.heap news)
    (h0 : J 0 m news)
    (turn : ∀ i t m₁ news₁ I oI h tk, i < n → J i m₁ news₁ → Fr h₀ env.locals h (fun y => if y = x then some (.int (a + (i : Int) * c) t) else m₁ y) → News h₀ env.locals h ((I, oI) :: news₁) → (∀ p ∈ news₁, p.1 ≠ I) →
      wpF (model prog w) A (execs body env) (fun f s' => match f with
        | .next | .cont => TurnEnd h₀ env.locals I oI (J (i + 1)) s s'
        | .brk => Q .next s'
        | .ret v => Q (.ret v) s') NoE { s with heap := h, toks := tk })
    (done : ∀ h' tk m' news', Fr h₀ env.locals h' m' → News h₀ env.locals h' news' → J n m' news' → Q .next { s with heap := h', toks := tk }) :
    wpF (model prog w) A (pyIter (.ref r)) (fun it s₂ => LoopEx prog w A h₀ env x body Q it s₂) NoE s := by
  refine wpF_of (wpAny_pyIter_range hr hsmall ?_)
  have W : Walks prog w A s.heap.objs.size [s.heap.objs.size] [s.heap.objs.size] n (fun i v => i < n ∧ ∃ t, v = .int (a + i * c) t) (fun i h => IsRangeIter h s.heap.objs.size (a + (i : Nat) * c) ((n : Int) - (i : Nat)) c) := (Walks.range hh _ a c n).bound
  refine ⟨s.heap.objs.size, _, n, _, _, fun _ => True, J, m, news, rfl, W, fun i h st => ⟨_, st⟩, ?_, ?_, F.push _, fun p hp => ⟨Heap.get?_push_of_some _ (N p hp).1, (N p hp).2⟩, Nat.ne_of_lt F.ns.lt, next_is_new F, fun p hp => Nat.ne_of_lt (Heap.lt_size (N p hp).1), fun _ _ _ _ => trivial, h0, ?_, ?_⟩
  · intro i h h' o nw st e e' _ _ _
    have st' : h.get? s.heap.objs.size = some _ := st
    show h'.get? s.heap.objs.size = some _
    rw [e', ← e]; exact st'
  · show IsRangeIter _ _ _ _ _
    rw [hn]; simpa using Heap.get?_push_size _ rfl
  · rintro i v m₁ news₁ oI h tk hi ⟨_, t, rfl⟩ hJ F₁ N₁ off₁
    exact turn i t m₁ news₁ _ oI h tk hi hJ F₁ N₁ off₁
  · intro h' tk m' news' F' N' hJ
    exact done h' tk m' news' F' N' hJ

theorem loopF_list {x : Str} {body : List Stmt} {Q : Flow → Shared → Prop} {l : Addr} {its : Array Value} {m : Str → Option Value} {news : List (Addr × Obj)} (J : Nat → (Str → Option Value) → List (Addr × Obj) → Prop)
    (hh : A.handled = none) (hJS : ∀ i m nw, J i m nw → LCg.SrcAt h₀ l its nw) (F : Fr h₀ env.locals s.heap m) (N : News h₀ env.locals s.heap news)
    (h0 : J 0 m news)
    (turn : ∀ i v m₁ news₁ I oI h tk, i < its.size → its[i]? = some v → J i m₁ news₁ → Fr h₀ env.locals h (fun y => if y = x then some v else m₁ y) → News h₀ env.locals h ((I, oI) :: news₁) → (∀ p ∈ news₁, p.1 ≠ I) →
      wpF (model prog w) A (execs body env) (fun f s' => match f with
        | .next | .cont => TurnEnd h₀ env.locals I oI (J (i + 1)) s s'
        | .brk => Q .next s'
        | .ret v => Q (.ret v) s') NoE { s with heap := h, toks := tk })
    (done : ∀ h' tk m' news', Fr h₀ env.locals h' m' → News h₀ env.locals h' news' → J its.size m' news' → Q .next { s with heap := h', toks := tk }) :
    wpF (model prog w) A (pyIter (.ref l)) (fun it s₂ => LoopEx prog w A h₀ env x body Q it s₂) NoE s := by
  have hl := (hJS _ _ _ h0).list F.keep N
  have hlt : l < s.heap.objs.size := by obtain ⟨_, e, _⟩ := hl; exact Heap.lt_size e
  refine wpF_of (wpAny_pyIter_list hl ?_)
  refine ⟨s.heap.objs.size, _, its.size, _, _, LCg.SrcAt h₀ l its, J, m, news, rfl, Walks.list hh s.heap.objs.size l (Nat.ne_of_lt hlt) its, fun i h st => by obtain ⟨o, e, _⟩ := st.1; exact ⟨o, e⟩, LCg.list_st,
    ⟨⟨_, Heap.get?_push_size _ rfl, rfl, rfl⟩, hl.push _⟩, F.push _, fun p hp => ⟨Heap.get?_push_of_some _ (N p hp).1, (N p hp).2⟩, Nat.ne_of_lt F.ns.lt, next_is_new F, fun p hp => Nat.ne_of_lt (Heap.lt_size (N p hp).1), hJS, h0, ?_, ?_⟩
  · intro i v m₁ news₁ oI h tk hi hv hJ F₁ N₁ off₁
    exact turn i v m₁ news₁ _ oI h tk hi hv hJ F₁ N₁ off₁
  · intro h' tk m' news' F' N' hJ
    exact done h' tk m' news' F' N' hJ
end
end Mine
end
theorem Mine.reset_FLoop2 : True := by
  w_top off
  trivial
/-! part FCell -/
section
open PySem PySem.W PyProof.Rows PySem.Calls
set_option Elab.async false
set_option maxRecDepth 100000
namespace Mine
/-- a call of a def of the text's, with cells, from the caller's own place -/
theorem codeF_cells {prog : Program} {w : World} {A : Around} {R : Result → Shared → Prop} {s : Shared} {K : Frag} {name qual : Str} {params : Arguments} {body : List Stmt} {scope : Scope} {dV kV doc pm cdv ct oc : Value} {an od : Option Addr} {osl : Array (Option Value)}
    {a : Addr} {args : Args} {binds : List (Str × Value)} (X : K.In s.heap)
    (ho : K.lookup a = some ⟨oc, od, .func (fnOf name qual params body scope dV kV doc pm an cdv ct), osl⟩) (hcd : codeIn K cdv qual = true) (hroom : A.depth < recursionLimit) (hlim : s.heap.NoLimit)
    (hbind : BindsTo s (fnOf name qual params body scope dV kV doc pm an cdv ct) args binds) (hkind : (binds.all fun y => scope.names.lookup y.1 == some .local || scope.names.lookup y.1 == some .cell) = true)
    (hnd : ((cellsFrom 0 scope.names []).map (·.1)).Nodup)
    (h : ∀ L h₁ tk cells, L = s.heap.objs.size → Fr s.heap L h₁ (bindL (envOfC qual scope L a cdv).kindOf binds fun _ => none) → News s.heap L h₁ cells →
      CellsAre (bindC (envOfC qual scope L a cdv).kindOf binds fun _ => none) (cellsFrom (L + 1) scope.names []) cells →
      wpF (model prog w) (A.deeper (envOfC qual scope L a cdv)) (execs body (envOfC qual scope L a cdv))
        (fun f s' => R (.ok (.ret (match f with | .ret v => v | _ => .none))) s') NoE { s with heap := h₁, toks := tk })
    (hco : scope.isCoroutine = false) (hgen : scope.isGenerator = false) (hk : scope.kind = .function) :
    codeF (model prog w) A (.call (.ref a) args) R s := by
  refine codeF_of_tree rfl ?_
  show wpF _ A.in1 (callAny (.ref a) _) _ _ s
  simp only [callAny]
  refine wpF_bind (wpF_of (wpAny_load (X _ _ ho) ?_))
  obtain ⟨c, oc, vs, tq, hc, hoc, hdc, hq⟩ := codeRec_of X hcd
  subst hc
  simp only [callFunction, hco, hgen]
  refine wpF_bind (m := field (.ref c) 1) (wpF_of (wpAny_field hoc hdc hq ?_))
  refine wpF_bind (wpF_pure ?_)
  refine wpF_bind (wpF_of (hbind _ _ _ _ ?_))
  refine wpF_bind (wpF_of (wpAny_newFunctionEnv_cells hk (kindsX hkind _) fun env he s' x => ?_))
  subst he
  refine wpF_bind (wpF_of (wpAny_enterFrame (hlim.keeps x.toInCall.keep) hroom ?_))
  refine wpF_pure ⟨rfl, codeF_func ?_⟩
  obtain ⟨h₁, tk, rfl, _⟩ := x.done
  obtain ⟨cells, N, Y⟩ := Cl.news (h₀ := s.heap) (Nat.le_refl _) fun n c hm => ⟨x.cell n c (lookup_of_mem_nodup (cellsFrom_names scope.names 0 (s.heap.objs.size + 1) [] [] rfl ▸ hnd) hm), x.above n c hm⟩
  exact h _ h₁ tk cells rfl ⟨x.toInCall.ns, x.toInCall.keep, x.toInCall.fresh⟩ N Y
end Mine
end
theorem Mine.reset_FCell : True := by
  w_top off
  trivial
/-! part FCallK -/
section
open PySem PySem.W PyProof.Rows PySem.Calls
set_option Elab.async false
set_option maxRecDepth 100000
namespace Mine
theorem wpF_CallK {M : Model} {A : Around} {E : Value → Shared → Prop} {s : Shared} {env : Env} {K : Frag} {f : Str} {pf : Pos} {e : Expr} {rest : List Expr} {pos : Pos} {Q : Value → Shared → Prop} {fv : Value}
    (hk : keepIn K fv = true)
    (hf : ∀ Q' : Value → Shared → Prop, Q' fv s → wpAny M A (eval (.Name f pf) env) Q' E s)
    (h : wpAny M A (spliced (backTo pos (starEach (e :: rest) env))) (fun vs s₁ => Stop (K.In s₁.heap ∧ wpF M A (call fv vs) Q E s₁)) E s)
    (he : starEach (e :: rest) env = (false, eval e env) :: starEach rest env := by rfl) (hplain : (backTo pos (starEach rest env)).any (·.1) = false := by rfl) :
    wpF M A (eval (.Call (.Name f pf) (e :: rest) [] pos) env) Q E s := by
  show wpF M A (do callWith pos (← eval (.Name f pf) env) [] (backTo pos (starEach (e :: rest) env)) []) Q E s
  refine wpF_bind (wpF_of (hf _ ?_))
  have hpl : (backTo pos (starEach (e :: rest) env)).any (·.1) = false := by
    rw [he]; show (false || (backTo pos (starEach rest env)).any (·.1)) = false; rw [hplain]; rfl
  unfold callWith
  have h' : wpF M A (evalArgs fv true (backTo pos (starEach (e :: rest) env)) []) (fun a s₁ => K.In s₁.heap ∧ wpF M A (call fv a.pos a.kw) Q E s₁) E s := by
    refine wpF_of ?_
    rw [he] at h ⊢
    exact evalArgs_plain (wpAny_mono h (fun _ _ x => x.out) fun _ _ x => x)
  refine wpF_bind (wpF_holding (wpF_mono h' (fun a s₁ h₁ => ?_) fun _ _ x => x))
  refine wpF_bind (wpF_of (wpAny_standAt ?_))
  obtain ⟨k, hk', L⟩ := looks_keep (M := M) hk h₁.1
  simp only [hpl, List.any_nil, Bool.or_false]
  refine wpF_bind (wpF_of (L _ _ _ _ (fun _ _ e => e) ?_))
  have tail : ∀ {t : Sem Value}, wpF M A t Q E s₁ → wpF M A (t >>= fun r => holding [r] point >>= fun _ => pure r) Q E s₁ :=
    fun ht => wpF_bind (wpF_mono ht (fun r s₂ hr => wpF_of (wpAny_bind (wpAny_holding (wpAny_point (wpAny_pure hr))))) fun _ _ x => x)
  have marked (mk : Value) : wpF M A (callMarked mk fv ([] ++ a.pos) a.kw) Q E s₁ := by unfold callMarked; exact wpF_keep h₁.2
  rcases hk' with rfl | rfl <;> dsimp only <;> first | exact tail h₁.2 | (split <;> first | exact tail h₁.2 | exact tail (marked _))
end Mine
end
theorem Mine.reset_FCallK : True := by
  w_top off
  trivial
/-! part Plain2 -/
section
open PySem PySem.W PyProof.Rows
set_option Elab.async false
namespace Mine
open PySem.Builtin PySem.Builtin.Str PySem.StrLaws

def joinL (sep : List Nat) : List (List Nat) → List Nat
  | [] => []
  | [x] => x
  | x :: y :: r => x ++ sep ++ joinL sep (y :: r)
theorem txt_nil : txt [] = Str.empty := rfl
theorem join_txt (sep : List Nat) : ∀ cs : List (List Nat), Txt.join (txt sep) (cs.map txt) = txt (joinL sep cs) := by
  intro cs
  show glued (txt sep) (cs.map txt) = _
  rw [glued_eq_join]
  induction cs with
  | nil => rfl
  | cons x r ih =>
    cases r with
    | nil => rfl
    | cons y r =>
      rw [joinL, ← txt_append, ← txt_append, ← ih]
      rfl
theorem joinL_ones (cs : List Nat) : joinL [] (cs.map fun c => [c]) = cs := by
  induction cs with
  | nil => rfl
  | cons x r ih =>
    cases r with
    | nil => rfl
    | cons y r => rw [List.map_cons, List.map_cons, joinL, ← List.map_cons (f := fun c : Nat => [c]), ih]; simp
def rowL (n : Nat) : List Nat := joinL [32] (List.replicate n [35])
theorem joinL_length (sep : List Nat) : ∀ cs : List (List Nat), (joinL sep cs).length ≤ (cs.map fun c => c.length + sep.length).sum
  | [] => Nat.zero_le _
  | [x] => by simp [joinL]
  | x :: y :: r => by
    have := joinL_length sep (y :: r)
    simp only [joinL, List.length_append, List.map_cons, List.sum_cons] at this ⊢
    omega

theorem foldl_sum (sep : Nat) (f : Str → Nat) : ∀ (l : List Str) (n : Nat), l.foldl (fun a x => a + f x + sep) n = n + (l.map fun x => f x + sep).sum
  | [], n => by simp
  | x :: l, n => by rw [List.foldl_cons, foldl_sum sep f l]; simp only [List.map_cons, List.sum_cons]; omega
theorem joinOk_of {sep : Str} {texts : List Str} {B : Nat} (hB : ∀ x ∈ texts, x.length ≤ B) (h : texts.length * (B + sep.length) ≤ 1000000) : JoinOk sep texts = true := by
  unfold JoinOk
  rw [Bool.not_eq_true']
  have e : texts.toArray.foldl (fun a x => a + x.length + sep.length) 0 ≤ texts.length * (B + sep.length) := by
    rw [List.foldl_toArray, foldl_sum sep.length (fun x => x.length) texts 0, Nat.zero_add]
    clear h
    induction texts with
    | nil => simp
    | cons x r ih =>
      have h1 := hB x (.head _)
      have h2 := ih fun y hy => hB y (.tail _ hy)
      simp only [List.map_cons, List.sum_cons, List.length_cons, Nat.add_mul, Nat.one_mul] at h2 ⊢
      omega
  have : sizeLine = 16777216 := sizeLine_eq
  show decide (_ > sizeLine) = false
  rw [decide_eq_false_iff_not]
  omega

section
variable {prog : Program} {w : World} {A : Around} {E : Value → Shared → Prop} {s : Shared} {t : Tok} {Q : Value → Shared → Prop}
/-- the values are texts -/
inductive Texts : List Value → List (List Nat) → Prop
  | nil : Texts [] []
  | cons {c : List Nat} {t : Tok} {vs : List Value} {cs : List (List Nat)} : Texts vs cs → Texts (.str (txt c) t :: vs) (c :: cs)
theorem Texts.length {vs : List Value} {cs : List (List Nat)} (h : Texts vs cs) : vs.length = cs.length := by induction h <;> simp_all
theorem Texts.values {vs : List Value} {cs : List (List Nat)} (h : Texts vs cs) : ∃ l : List (Str × Tok), vs = strValues l ∧ l.map (·.1) = cs.map txt := by
  induction h with
  | nil => exact ⟨[], rfl, rfl⟩
  | @cons c t vs cs _ ih =>
    obtain ⟨l, e1, e2⟩ := ih
    exact ⟨(txt c, t) :: l, by rw [e1]; rfl, by rw [List.map_cons, e2]; rfl⟩
theorem Texts.append {vs : List Value} {cs : List (List Nat)} (h : Texts vs cs) {vs' : List Value} {cs' : List (List Nat)} (h' : Texts vs' cs') : Texts (vs ++ vs') (cs ++ cs') := by
  induction h with
  | nil => exact h'
  | cons _ ih => exact .cons ih
theorem Texts.replicate (c : List Nat) (t : Tok) : ∀ n, Texts (List.replicate n (.str (txt c) t)) (List.replicate n c)
  | 0 => .nil
  | n + 1 => .cons (Texts.replicate c t n)
theorem join_call {D : Addr} {vs : List Value} {sep : Str} {sp : List Nat} {cs : List (List Nat)} {B : Nat} (hl : s.heap.IsList D vs.toArray) (h : Texts vs cs) (hsep : sep = txt sp) (hB : ∀ c ∈ cs, c.length ≤ B) (hz : cs.length * (B + sp.length) ≤ 1000000)
    (hq : ∀ t' k, Q (.str (txt (joinL sp cs)) t') { s with toks := k }) : wpAny (model prog w) A (call (.builtin "str.join") [.str sep t, .ref D]) Q E s := by
  subst hsep
  obtain ⟨l, e1, e2⟩ := h.values
  subst e1
  refine SC.join hl e2 (joinOk_of (B := B) ?_ ?_) ?_
  · intro x hx
    obtain ⟨c, hc, rfl⟩ := List.mem_map.mp hx
    rw [txt_length]; exact hB c hc
  · rw [List.length_map, txt_length]; exact hz
  · intro t' k
    rw [join_txt]; exact hq t' k
end
def repL (n : Nat) (l : List Nat) : List Nat := (List.replicate n l).flatten
theorem repL_length (n : Nat) (l : List Nat) : (repL n l).length = n * l.length := by unfold repL; simp
theorem foldl_arr (n : Nat) (l : List Nat) : (List.replicate n l.toArray).foldl (· ++ ·) #[] = (repL n l).toArray := by
  have key : ∀ (n : Nat) (a : Array Nat), (List.replicate n l.toArray).foldl (· ++ ·) a = a ++ (repL n l).toArray := by
    intro n
    induction n with
    | zero => intro a; simp [repL]
    | succ n ih => intro a; rw [List.replicate_succ, List.foldl_cons, ih]; apply Array.ext'; simp [repL, List.replicate_succ]
  rw [key]; simp
theorem mul_txt (l : List Nat) (n : Nat) : Txt.mul (txt l) (n : Int) = txt (repL n l) := by
  unfold Txt.mul
  split
  · have : n = 0 := by omega
    subst this; rfl
  · split
    · rename_i h1 h2
      rw [Bool.or_eq_true, beq_iff_eq, beq_iff_eq, txt_length] at h2
      rcases h2 with h2 | h2
      · have : n = 1 := by omega
        subst this; simp [repL, txt]
      · have : l = [] := List.eq_nil_of_length_eq_zero h2
        subst this; simp [repL, txt]
    · show Str.mk _ = Str.mk _
      rw [Int.toNat_natCast]
      congr 1
      exact foldl_arr n l
theorem str_mul {prog : Program} {w : World} {A : Around} {E : Value → Shared → Prop} {s : Shared} {t u : Tok} {Q : Value → Shared → Prop} {x : Str} {l : List Nat} {i : Int} {n : Nat} (hx : x = txt l) (hi : i = n) (hl : l.length ≤ 16) (hn : n ≤ 1000)
    (h : ∀ t' k, Q (.str (txt (repL n l)) t') { s with toks := k }) : wpAny (model prog w) A (binaryOp .Mult (.str x t) (.int i u)) Q E s := by
  subst hx hi
  refine SB.mul (mulOk_of 16 1048576 (by rw [txt_length]; omega) (by omega) (by omega) (by decide) (by decide)) fun t' k => ?_
  rw [mul_txt]; exact h t' k
end Mine
end
theorem Mine.reset_Plain2 : True := by
  w_top off
  trivial
/-! part Comp -/
section
open PySem PySem.W PyProof.Rows PySem.Calls
open LCg LCt
set_option Elab.async false
set_option maxRecDepth 100000
namespace Mine
def filt (q : Nat → Bool) (n : Nat) : List Int := ((List.range n).filter q).map fun k : Nat => (k : Int)
theorem filt_succ (q : Nat → Bool) (n : Nat) : filt q (n + 1) = filt q n ++ (if q n = true then [(n : Int)] else []) := by
  unfold filt
  rw [List.range_succ, List.filter_append, List.map_append]
  by_cases h : q n = true <;> simp [h]
theorem ints_snoc {ys : List Value} {ns : List Int} (h : IntsAre ys ns) (n : Int) (t : Tok) : IntsAre (ys ++ [.int n t]) (ns ++ [n]) := h.append (.cons n t .nil)

section
variable {prog : Program} {w : World} {A : Around} {E : Value → Shared → Prop} {s : Shared} {h₀ : Heap} {L : Addr} {m : Str → Option Value} {env : Env}
theorem restT_filter {ct : Expr} {x : Str} {px' : Pos} {scope : Scope} {cl : List (Str × Addr)} {news : List (Addr × Obj)} {Fin : List Value → List (Addr × Obj) → Prop} {n : Nat} (q : Nat → Bool)
    (hkind : scope.kind = .function) (hx : scope.names.lookup x = some .local) (hd : (x == ("__debug__" : Str)) = false)
    (hF : ∀ ys, IntsAre ys (filt q n) → Fin ys news)
    (hct : ∀ (i : Nat) (t : Tok) C oC m₂ h tk (Q' : Bool → Shared → Prop) (E' : Value → Shared → Prop), i < n → NsObj oC m₂ → h.get? C = some oC → m₂ x = some (.int (i : Int) t) → Fr h₀ L h m → News h₀ L h news →
      (∀ tk', Q' (q i) { s with heap := h, toks := tk' }) → wpAny (model prog w) A (isTrue ct (compEnvC scope cl C env) (eval ct (compEnvC scope cl C env))) Q' E' { s with heap := h, toks := tk }) :
    CompRestT prog w A h₀ L m env ct (.Name x px') x scope cl s (fun _ => True) (fun i v => ∃ t, v = .int (0 + (i : Int)) t) Fin n 0 [] news := by
  have key : ∀ (k i : Nat) (ys : List Value), i + k = n → IntsAre ys (filt q i) → CompRestT prog w A h₀ L m env ct (.Name x px') x scope cl s (fun _ => True) (fun i v => ∃ t, v = .int (0 + (i : Int)) t) Fin k i ys news := by
    intro k
    induction k with
    | zero =>
      intro i ys hi hy
      obtain rfl : i = n := by omega
      exact hF ys hy
    | succ k ih =>
      intro i ys hi hy
      refine CompRestT.succ fun v I oI C oC D m₂ h tk E' hP hoC hm F N off ne => ?_
      obtain ⟨t, rfl⟩ := hP
      rw [Int.zero_add] at hm
      have hC := (N (C, oC) (by simp)).1
      have N' : News h₀ L h news := fun p hp => N p (by simp [hp])
      refine hct i t C oC m₂ h tk _ _ (by omega) hoC hC hm F N' fun tk' => ?_
      have hs := filt_succ q i
      by_cases hq : q i = true
      · rw [if_pos hq]
        rw [if_pos hq] at hs
        refine wpAny_Name (wpAny_loadName_local (env := compEnvC scope cl C env) hkind (lookup_relabel_local hx) (hoC.ns hC) hm ?_) hd
        refine CompEnd.intro F N news (fun p hp => hp) off trivial (ih (i + 1) _ (by omega) ?_)
        rw [hs]
        exact ints_snoc hy _ _
      · rw [if_neg hq]
        rw [if_neg hq, List.append_nil] at hs
        exact CompEnd.intro F N news (fun p hp => hp) off trivial (ih (i + 1) _ (by omega) (by rw [hs]; exact hy))
  exact key n 0 [] (by omega) .nil

/-- a comprehension without a test: each element by a relation of its place -/
theorem rest_map {elt : Expr} {x : Str} {scope : Scope} {cl : List (Str × Addr)} {news : List (Addr × Obj)} {S : List (Addr × Obj) → Prop} {P : Nat → Value → Prop} {Fin : List Value → List (Addr × Obj) → Prop} {n : Nat} (Rel : Nat → Value → Prop) (hS : S news)
    (hF : ∀ ys, ys.length = n → (∀ i y, ys[i]? = some y → Rel i y) → Fin ys news)
    (helt : ∀ (i : Nat) v C oC m₂ h tk (Q' : Value → Shared → Prop) (E' : Value → Shared → Prop), i < n → P i v → NsObj oC m₂ → h.get? C = some oC → m₂ x = some v → Fr h₀ L h m → News h₀ L h news →
      (∀ y tk', Rel i y → Q' y { s with heap := h, toks := tk' }) → wpAny (model prog w) A (eval elt (compEnvC scope cl C env)) Q' E' { s with heap := h, toks := tk }) :
    CompRest prog w A h₀ L m env elt x scope cl s S P Fin n 0 [] news := by
  have key : ∀ (k i : Nat) (ys : List Value), i + k = n → ys.length = i → (∀ i y, ys[i]? = some y → Rel i y) → CompRest prog w A h₀ L m env elt x scope cl s S P Fin k i ys news := by
    intro k
    induction k with
    | zero =>
      intro i ys hi hy hr
      exact hF ys (by omega) hr
    | succ k ih =>
      intro i ys hi hy hr
      refine CompRest.succ fun v I oI C oC D m₂ h tk E' hP hoC hm F N off ne => ?_
      have hC := (N (C, oC) (by simp)).1
      have N' : News h₀ L h news := fun p hp => N p (by simp [hp])
      refine helt i v C oC m₂ h tk _ _ (by omega) hP hoC hC hm F N' fun y tk' hy' => ?_
      refine CompEnd.intro F N news (fun p hp => hp) off hS (ih (i + 1) _ (by omega) (by simp [hy]) fun j z hz => ?_)
      rw [List.getElem?_append] at hz
      split at hz
      · exact hr j z hz
      · have hj : j = i := by
          rcases Nat.lt_or_ge (j - ys.length) 1 with h1 | h1
          · omega
          · rw [List.getElem?_eq_none (by simpa using h1)] at hz; cases hz
        subst hj
        rw [hy, Nat.sub_self] at hz
        cases hz
        exact hy'
  exact key n 0 [] (by omega) rfl (fun i y h => by simp at h)
end
end Mine
end
theorem Mine.reset_Comp : True := by
  w_top off
  trivial
/-! part Comp2 -/
section
open PySem PySem.W PyProof.Rows PySem.Calls
open LCg LCt
set_option Elab.async false
set_option maxRecDepth 100000
namespace Mine
open PySem.Builtin PySem.Builtin.Str PySem.StrLaws
section
variable {prog : Program} {w : World} {A : Around} {E : Value → Shared → Prop} {s : Shared} {h₀ : Heap} {L : Addr} {m : Str → Option Value} {env : Env}
theorem sign_item {value slice : Expr} {l : List Nat} {i : Nat} {k : Int} {c : Nat} {t u : Tok} {Q : Value → Shared → Prop} (hk : k = i) (hc : l[i]? = some c)
    (h : Q (.str (txt [c]) s.toks) { s with toks := s.toks + 1 })
    (hs : subscripted slice false (.str (txt l) t) (.int k u) = operate [.str (txt l) t, .int k u] (getItem (.str (txt l) t) (.int k u)))
    (ht : ∀ r, letTemporaryGo value (.str (txt l) t) r = pure ()) (hz : l.length ≤ 1000) :
    wpAny (model prog w) A (subscriptTail value slice (.str (txt l) t) (.int k u)) Q E s := by
  subst hk
  have hi : i < l.length := (List.getElem?_eq_some_iff.mp hc).1
  refine subscriptTail_builtin (typeIs_str _ _ _) F.slot_str_getitem.lookup ?_ hs ht
  refine P.getItem_str (c := c) ?_ ?_ h
  · simp only [Bool.or_eq_false_iff, decide_eq_false_iff_not]; omega
  · rw [seqIndex_nonneg (by omega) (by rw [txt_length]; omega)]
    show (txt l).cps[(i : Int).toNat]? = some c
    rw [Int.toNat_natCast]
    show l.toArray[i]? = some c
    simpa using hc
theorem sign_in {x : Str} {xs : List Nat} {c : Nat} {t u : Tok} {Q : Value → Shared → Prop} (hx : x = txt xs) (h : Q (.bool (decide (c ∈ xs))) s) : wpAny (model prog w) A (compareOp .In (.str (txt [c]) u) (.str x t)) Q E s := by
  subst hx
  refine P.in_str ?_
  rw [show txt [c] = ⟨#[c]⟩ from rfl, found_one]
  exact h
theorem sign_notIn {x : Str} {xs : List Nat} {c : Nat} {t u : Tok} {Q : Value → Shared → Prop} (hx : x = txt xs) (h : Q (.bool (!decide (c ∈ xs))) s) : wpAny (model prog w) A (compareOp .NotIn (.str (txt [c]) u) (.str x t)) Q E s := by
  subst hx
  refine P.notIn_str ?_
  rw [show txt [c] = ⟨#[c]⟩ from rfl, found_one]
  exact h
theorem sign_eq {x : Str} {d c : Nat} {t u : Tok} {Q : Value → Shared → Prop} (hx : x = txt [d]) (h : Q (.bool (c == d)) s) : wpAny (model prog w) A (compareOp .Eq (.str (txt [c]) u) (.str x t)) Q E s := by
  subst hx
  refine eq_str ?_
  have e : (txt [c] == txt [d]) = (c == d) := by
    rw [Bool.eq_iff_iff, beq_iff_eq, beq_iff_eq]
    exact ⟨fun h => by have := txt_inj h; simpa using this, fun h => by rw [h]⟩
  rw [e]; exact h

/-- the sign of a text in a cell, tested in a comprehension -/
theorem test_cell {core x : Str} {scope : Scope} {cl : List (Str × Addr)} {C cc : Addr} {o oC : Obj} {m₂ : Str → Option Value} {op : CmpOp} {cs : Str} {kk : Nat} {p1 p2 p3 p4 p5 : Pos} {whole : Sem Value} {l : List Nat} {i c : Nat} {t ti : Tok} {h : Heap} {tk : Nat}
    {Q : Bool → Shared → Prop} (b : Nat → Bool) (hkind : scope.kind = .function) (hx : scope.names.lookup x = some .local) (hcore : (compEnvC scope cl C env).kindOf core = some .cell) (hcl : cl.lookup core = some cc) (ho : h.get? cc = some o) (hod : o.data = .cell (some (.str (txt l) t)))
    (hoC : NsObj oC m₂) (hC : h.get? C = some oC) (hm : m₂ x = some (.int (i : Int) ti)) (hi : l[i]? = some c) (hz : l.length ≤ 1000)
    (hcmp : ∀ (s' : Shared) (u v : Tok) (Q' : Value → Shared → Prop), Q' (.bool (b c)) s' → wpAny (model prog w) A (compareOp op (.str (txt [c]) u) (.str cs v)) Q' E s')
    (hQ : ∀ tk', Q (b c) { s with heap := h, toks := tk' })
    (hd1 : (core == ("__debug__" : Str)) = false) (hd2 : (x == ("__debug__" : Str)) = false)
    (hs : ∀ tu : Tok, subscripted (.Name x p2) false (.str (txt l) t) (.int (i : Int) tu) = operate [.str (txt l) t, .int (i : Int) tu] (getItem (.str (txt l) t) (.int (i : Int) tu)))
    (ht : ∀ r, letTemporaryGo (.Name core p1) (.str (txt l) t) r = pure ()) (hm' : behindInMarks op (.Constant (.str cs) kk p4) = false) :
    wpAny (model prog w) A (isTrue (.Compare (.Subscript (.Name core p1) (.Name x p2) p3) [op] [.Constant (.str cs) kk p4] p5) (compEnvC scope cl C env) whole) Q E { s with heap := h, toks := tk } := by
  refine wpAny_isTrue_Compare1 (Subscript_ ?_) hm'
  refine wpAny_Name (wpAny_loadName_cell (env := compEnvC scope cl C env) hkind hcore hcl ⟨o, ho, hod⟩ ?_) hd1
  refine wpAny_Name (wpAny_loadName_local (env := compEnvC scope cl C env) hkind (lookup_relabel_local hx) (hoC.ns hC) hm ?_) hd2
  refine sign_item rfl hi ?_ (hs _) ht hz
  refine wpAny_Constant_str ?_
  exact hcmp _ _ _ _ (wpAny_truthy_bool (hQ _))
end
end Mine
end
theorem Mine.reset_Comp2 : True := by
  w_top off
  trivial
/-! part Comp3 -/
section
open PySem PySem.W PyProof.Rows PySem.Calls
open LCg LCt
set_option Elab.async false
set_option maxRecDepth 100000
namespace Mine
theorem off1_mem {D : Addr} : ∀ {l : List (Addr × Obj)}, Off1 D l → ∀ p ∈ l, p.1 ≠ D
  | [], _, _, h => nomatch h
  | _ :: _, x, p, h => by
    rcases List.mem_cons.mp h with rfl | h
    · exact x.1
    · exact off1_mem x.2 p h
section
variable {prog : Program} {w : World} {A : Around} {E : Value → Shared → Prop} {s : Shared} {h₀ : Heap} {L : Addr} {m : Str → Option Value} {env : Env}

/-- what a filter's test and end must show -/
def FiltSpec (prog : Program) (w : World) (A : Around) (h₀ : Heap) (L : Addr) (m : Str → Option Value) (env : Env) (ct : Expr) (x : Str) (scope : Scope) (cl : List (Str × Addr)) (q : Nat → Bool) (n : Nat) (news : List (Addr × Obj)) (s : Shared) : Prop :=
  ∀ (i : Nat) (t : Tok) C oC m₂ h tk (Q' : Bool → Shared → Prop) (E' : Value → Shared → Prop), i < n → NsObj oC m₂ → h.get? C = some oC → m₂ x = some (.int (i : Int) t) → Fr h₀ L h m → News h₀ L h news →
      (∀ tk', Q' (q i) { s with heap := h, toks := tk' }) → wpAny (model prog w) A (isTrue ct (compEnvC scope cl C env) (eval ct (compEnvC scope cl C env))) Q' E' { s with heap := h, toks := tk }

theorem filter_eval {ct iter : Expr} {x : Str} {px px' : Pos} {scope : Scope} {cl : List (Str × Addr)} {pos : Pos} {Q : Value → Shared → Prop} (F₀ : Fr h₀ L s.heap m)
    (hclos : closureFor scope env = pure cl) (hcell : ∀ y ∈ scope.names, y.2 ≠ .cell) (hkind : scope.kind = .function)
    (hnames : ∀ y ∈ scope.names, y.2 = .local → scope.names.lookup y.1 = some .local) (hx : scope.names.lookup x = some .local) (hd : (x == ("__debug__" : Str)) = false) (hh : A.handled = none) (q : Nat → Bool)
    (h : wpAny (model prog w) A (eval iter env) (fun xv s₁ => Stop (∃ r t u v n news, xv = .ref r ∧ Fr h₀ L s₁.heap m ∧ News h₀ L s₁.heap news ∧ IsRange s₁.heap r 0 ((n : Nat) : Int) 1 t u v ∧ n ≤ 1000 ∧ FiltSpec prog w A h₀ L m env ct x scope cl q n news s₁ ∧
      ∀ D h tk (ys : List Value), IntsAre ys (filt q n) → Fr h₀ L h m → News h₀ L h ((D, listOf ys.toArray ys.length) :: news) → (∀ p ∈ news, p.1 ≠ D) → Q (.ref D) { s₁ with heap := h, toks := tk })) E s)
    (hs : ∀ x, foldedSetIterable iter env x = pure x) :
    wpAny (model prog w) A (eval (.ListComp (.Name x px') [⟨.Name x px, iter, [ct], 0⟩] scope pos) env) Q E s := by
  refine ListComp_T F₀ hclos hcell hkind hnames hx (wpAny_mono h (fun xv s₁ h₁ => ?_) fun _ _ e => e) hs
  obtain ⟨⟨r, t, u, v, n, news, rfl, F, N, hr, hn, hct, fin⟩⟩ := h₁
  refine CompSrcT.range (n := n) hh F N hr (small_one (by omega) (by omega) (by omega) (by omega)) ?_ (by rw [sizeLine_eq]; omega) fun g => ?_
  · unfold Builtin.Range.rangeSize
    rw [if_pos (by omega)]
    split <;> omega
  · refine restT_filter q hkind hx hd (fun ys hy D h tk F' N' off => fin D h tk ys hy F' N' (off1_mem off)) ?_
    exact hct

theorem filter_assign {ct iter : Expr} {x y : Str} {px px' py : Pos} {scope : Scope} {cl : List (Str × Addr)} {pos spos : Pos} {Q : Flow → Shared → Prop} (F₀ : Fr h₀ L s.heap m) (hLe : env.locals = L)
    (hsw : swapsWith (.ListComp (.Name x px') [⟨.Name x px, iter, [ct], 0⟩] scope pos) (some (.Name y py)) spos.line env = pure true)
    (hclos : closureFor scope env = pure cl) (hcell : ∀ y ∈ scope.names, y.2 ≠ .cell) (hkind : scope.kind = .function)
    (hnames : ∀ y ∈ scope.names, y.2 = .local → scope.names.lookup y.1 = some .local) (hx : scope.names.lookup x = some .local) (hd : (x == ("__debug__" : Str)) = false)
    (hy : env.kindOf y = some .local) (hp : (env.scope.kind == .class || (env.scope.kind == .module && env.locals != env.globals)) = false) (hh : A.handled = none) (q : Nat → Bool)
    (h : wpAny (model prog w) A (eval iter env) (fun xv s₁ => Stop (∃ r t u v n news, xv = .ref r ∧ Fr h₀ L s₁.heap m ∧ News h₀ L s₁.heap news ∧ IsRange s₁.heap r 0 ((n : Nat) : Int) 1 t u v ∧ n ≤ 1000 ∧ FiltSpec prog w A h₀ L m env ct x scope cl q n news s₁ ∧
      ∀ D h tk (ys : List Value), IntsAre ys (filt q n) → Fr h₀ L h (fun z => if z = y then some (.ref D) else m z) → News h₀ L h ((D, listOf ys.toArray ys.length) :: news) → (∀ p ∈ news, p.1 ≠ D) → Q .next { s₁ with heap := h, toks := tk })) E s)
    (hs : ∀ x, foldedSetIterable iter env x = pure x) :
    wpAny (model prog w) A (exec (.Assign [.Name y py] (.ListComp (.Name x px') [⟨.Name x px, iter, [ct], 0⟩] scope pos) spos) env) Q E s := by
  refine Assign_ListComp_T F₀ hLe hsw hclos hcell hkind hnames hx hy hp (wpAny_mono h (fun xv s₁ h₁ => ?_) fun _ _ e => e) hs
  obtain ⟨⟨r, t, u, v, n, news, rfl, F, N, hr, hn, hct, fin⟩⟩ := h₁
  refine CompSrcT.range (n := n) hh F N hr (small_one (by omega) (by omega) (by omega) (by omega)) ?_ (by rw [sizeLine_eq]; omega) fun g => ?_
  · unfold Builtin.Range.rangeSize
    rw [if_pos (by omega)]
    split <;> omega
  · refine restT_filter q hkind hx hd (fun ys hy D h tk F' N' off => fin D h tk ys hy F' N' (off1_mem off)) ?_
    exact hct

/-- what an element must show -/
def EltSpec (prog : Program) (w : World) (A : Around) (h₀ : Heap) (L : Addr) (m : Str → Option Value) (env : Env) (elt : Expr) (x : Str) (scope : Scope) (cl : List (Str × Addr)) (P Rel : Nat → Value → Prop) (n : Nat) (news : List (Addr × Obj)) (s : Shared) : Prop :=
  ∀ (i : Nat) v C oC m₂ h tk (Q' : Value → Shared → Prop) (E' : Value → Shared → Prop), i < n → P i v → NsObj oC m₂ → h.get? C = some oC → m₂ x = some v → Fr h₀ L h m → News h₀ L h news →
      (∀ y tk', Rel i y → Q' y { s with heap := h, toks := tk' }) → wpAny (model prog w) A (eval elt (compEnvC scope cl C env)) Q' E' { s with heap := h, toks := tk }

theorem map_eval_list {elt iter : Expr} {x : Str} {px : Pos} {scope : Scope} {cl : List (Str × Addr)} {pos : Pos} {Q : Value → Shared → Prop} (F₀ : Fr h₀ L s.heap m)
    (hclos : closureFor scope env = pure cl) (hcell : ∀ y ∈ scope.names, y.2 ≠ .cell) (hkind : scope.kind = .function)
    (hnames : ∀ y ∈ scope.names, y.2 = .local → scope.names.lookup y.1 = some .local) (hx : scope.names.lookup x = some .local) (hh : A.handled = none) (Rel : Nat → Value → Prop)
    (h : wpAny (model prog w) A (eval iter env) (fun xv s₁ => Stop (∃ ax its news, xv = .ref ax ∧ Fr h₀ L s₁.heap m ∧ News h₀ L s₁.heap news ∧ SrcAt h₀ ax its news ∧ its.size ≤ 1000 ∧ EltSpec prog w A h₀ L m env elt x scope cl (fun i v => its[i]? = some v) Rel its.size news s₁ ∧
      ∀ D h tk (ys : List Value), ys.length = its.size → (∀ i y, ys[i]? = some y → Rel i y) → Fr h₀ L h m → News h₀ L h ((D, listOf ys.toArray ys.length) :: news) → (∀ p ∈ news, p.1 ≠ D) → Q (.ref D) { s₁ with heap := h, toks := tk })) E s)
    (hs : ∀ x, foldedSetIterable iter env x = pure x) :
    wpAny (model prog w) A (eval (.ListComp elt [⟨.Name x px, iter, [], 0⟩] scope pos) env) Q E s := by
  refine ListComp_U F₀ hclos hcell hkind hnames hx (wpAny_mono h (fun xv s₁ h₁ => ?_) fun _ _ e => e) hs
  obtain ⟨⟨ax, its, news, rfl, F, N, S, hn, helt, fin⟩⟩ := h₁
  refine .inl ⟨ax, its, news, rfl, hh, F, N, S, by rw [sizeLine_eq]; omega, ?_⟩
  rintro s₂ ⟨g, rfl⟩
  exact rest_map Rel S (fun ys hy hr D h tk F' N' off => fin D h tk ys hy hr F' N' (off1_mem off)) helt

/-- over a text's signs, or a bytes' octets -/
theorem map_eval_W {elt iter : Expr} {x : Str} {px : Pos} {scope : Scope} {cl : List (Str × Addr)} {pos : Pos} {Q : Value → Shared → Prop}
    (hclos : closureFor scope env = pure cl) (hcell : ∀ y ∈ scope.names, y.2 ≠ .cell) (hkind : scope.kind = .function)
    (hnames : ∀ y ∈ scope.names, y.2 = .local → scope.names.lookup y.1 = some .local) (hx : scope.names.lookup x = some .local) (n : Nat) (hn : n ≤ 1000) (P Rel : Nat → Value → Prop)
    (h : wpAny (model prog w) A (eval iter env) (fun xv s₁ => Stop (∃ news, Fr h₀ L s₁.heap m ∧ News h₀ L s₁.heap news ∧
      (∀ Q' : Value → Shared → Prop, (∀ (o : Obj) (St : Nat → Heap → Prop), Walks prog w A s₁.heap.objs.size [s₁.heap.objs.size] [s₁.heap.objs.size] n P St → St 0 (s₁.heap.push o) → (∀ i h, St i h → ∃ o, h.get? s₁.heap.objs.size = some o) →
        Q' (.ref s₁.heap.objs.size) { s₁ with heap := s₁.heap.push o }) → wpAny (model prog w) A (pyIter xv) Q' E s₁) ∧ EltSpec prog w A h₀ L m env elt x scope cl P Rel n news s₁ ∧
      ∀ D h tk (ys : List Value), ys.length = n → (∀ i y, ys[i]? = some y → Rel i y) → Fr h₀ L h m → News h₀ L h ((D, listOf ys.toArray ys.length) :: news) → (∀ p ∈ news, p.1 ≠ D) → Q (.ref D) { s₁ with heap := h, toks := tk })) E s)
    (hs : ∀ x, foldedSetIterable iter env x = pure x) :
    wpAny (model prog w) A (eval (.ListComp elt [⟨.Name x px, iter, [], 0⟩] scope pos) env) Q E s := by
  rw [eval_ListComp]
  refine wpAny_comprehension_free (use := none) rfl hs hclos hkind hnames (wpAny_mono h (fun xv s₁ h₁ => ?_) fun _ _ e => e)
  obtain ⟨⟨news, F, N, pit, helt, fin⟩⟩ := h₁
  refine pit _ fun o St W hst hIo => ?_
  refine block_U (S := fun _ => True) (Fin := fun ys nw => FinE h₀ L m { s₁ with heap := s₁.heap.push o } Q ys nw) W (by rw [sizeLine_eq]; omega) hIo ?_ hcell hkind hx hst (fun b hb => ?_)
    (F.keeps fun _ _ e => Heap.get?_push_of_some _ e) (N.grown fun _ _ e => Heap.get?_push_of_some _ e) (Nat.ne_of_lt F.ns.lt) (next_is_new F) (fun p hp => Nat.ne_of_lt (Heap.lt_size (N p hp).1)) trivial
    (rest_map Rel trivial (fun ys hy hr D h tk F' N' off => fin D h tk ys hy hr F' N' (off1_mem off)) helt) ?_
  · intro i h h' o' nw st e e' _ _ _
    exact W.frame i h h' st fun b hb o'' e'' => by
      rw [List.mem_singleton.mp hb] at e'' ⊢
      rw [e] at e''; cases e''; exact e'
  · rw [List.mem_singleton.mp hb]
    show s₁.heap.objs.size < (s₁.heap.push _).objs.size
    rw [Heap.size_push]; exact Nat.lt_succ_self _
  · intro D C h tk m' ys news' F' N' o1 hn hC₀ hD₀ hCL hDL hCD offC fin
    refine ⟨m', hn, fun h'' hs'' => fin D h'' tk (F'.change hs'' hCL hC₀) (fun p hp => ?_) o1⟩
    refine ⟨hs''.extBut _ _ ?_ (N' p hp).1, (N' p hp).2⟩
    rcases List.mem_cons.mp hp with rfl | hp
    · exact Ne.symm hCD
    · exact offC p hp
end
end Mine
end
theorem Mine.reset_Comp3 : True := by
  w_top off
  trivial
/-! part Plain3 -/
section
open PySem PySem.W PyProof.Rows
set_option Elab.async false
namespace Mine

theorem getD_some {l : List Nat} {i : Nat} (h : i < l.length) : l[i]? = some (l.getD i 0) := by simp [List.getD, h]
theorem headL_le (l : List Nat) : (headL l).length ≤ l.length := by unfold headL; exact (List.takeWhile_sublist _).length_le
theorem headL_take (l : List Nat) : l.take (headL l).length = headL l := by
  unfold headL
  induction l with
  | nil => rfl
  | cons a l ih =>
    rw [List.takeWhile_cons]
    split
    · rw [List.length_cons, List.take_succ_cons, ih]
    · simp
theorem headL_pre {l : List Nat} {i : Nat} (h : i < (headL l).length) : l.getD i 0 ∉ [58, 10] := by
  have e : (headL l)[i]? = l[i]? := by
    have := headL_take l
    rw [← this, List.getElem?_take, if_pos h]
  have hi : i < l.length := Nat.lt_of_lt_of_le h (headL_le l)
  rw [getD_some hi] at e
  have hm : l.getD i 0 ∈ headL l := List.mem_of_getElem? e
  have key : ∀ (l : List Nat) (c : Nat), c ∈ headL l → stopC c = false := by
    intro l
    induction l with
    | nil => intro c hc; simp [headL] at hc
    | cons a l ih =>
      intro c hc
      unfold headL at hc
      rw [List.takeWhile_cons] at hc
      split at hc
      · rename_i hq0
        rcases List.mem_cons.mp hc with rfl | hc
        · have hq := hq0
          cases e' : stopC c with
          | false => rfl
          | true => rw [e'] at hq; cases hq
        · exact ih c hc
      · cases hc
  have := key l _ hm
  simp [stopC] at this
  simp
  exact ⟨this.1, this.2⟩
theorem headL_at {l : List Nat} (h : (headL l).length < l.length) : l.getD (headL l).length 0 ∈ [58, 10] := by
  induction l with
  | nil => simp at h
  | cons a l ih =>
    unfold headL at h ⊢
    rw [List.takeWhile_cons] at h ⊢
    split at h
    · rename_i hp
      rw [if_pos hp]
      simp only [List.length_cons] at h ⊢
      have := ih (by unfold headL; omega)
      simpa [headL] using this
    · rename_i hp
      rw [if_neg hp]
      have : stopC a = true := by simpa using hp
      simp [stopC] at this
      simp
      exact this
theorem filt_none {q : Nat → Bool} : ∀ n, (∀ i, i < n → q i = false) → filt q n = []
  | 0, _ => rfl
  | n + 1, h => by rw [filt_succ, filt_none n fun i hi => h i (by omega), h n (by omega)]; rfl
theorem filt_split (q : Nat → Bool) (a : Nat) : ∀ n, a ≤ n → ∃ r, filt q n = filt q a ++ r
  | 0, h => ⟨[], by have : a = 0 := by omega
                    subst this; simp⟩
  | n + 1, h => by
    by_cases e : a = n + 1
    · subst e; exact ⟨[], by simp⟩
    · obtain ⟨r, hr⟩ := filt_split q a n (by omega)
      exact ⟨r ++ (if q n = true then [(n : Int)] else []), by rw [filt_succ, hr, List.append_assoc]⟩
theorem stops_head (l : List Nat) : ∃ r, filt (fun i => decide (l.getD i 0 ∈ [58, 10])) l.length ++ [(l.length : Int)] = ((headL l).length : Int) :: r := by
  have h0 : filt (fun i => decide (l.getD i 0 ∈ [58, 10])) (headL l).length = [] := filt_none _ fun i hi => by
    rw [decide_eq_false_iff_not]; exact headL_pre hi
  by_cases e : (headL l).length = l.length
  · rw [← e, h0]; exact ⟨[], rfl⟩
  · have hlt : (headL l).length < l.length := by have := headL_le l; omega
    obtain ⟨r, hr⟩ := filt_split (fun i => decide (l.getD i 0 ∈ [58, 10])) ((headL l).length + 1) l.length (by omega)
    rw [hr, filt_succ, h0]
    have : decide (l.getD (headL l).length 0 ∈ [58, 10]) = true := by rw [decide_eq_true_eq]; exact headL_at hlt
    simp only [this, if_true]
    exact ⟨r ++ [(l.length : Int)], by simp⟩

/-- the last of a filter's ints -/
theorem filt_last (q : Nat → Bool) : ∀ n, filt q n ≠ [] → ∃ r k, filt q n = r ++ [((k : Nat) : Int)] ∧ k < n ∧ q k = true ∧ ∀ i, k < i → i < n → q i = false
  | 0, h => absurd rfl h
  | n + 1, h => by
    by_cases e : q n = true
    · exact ⟨filt q n, n, by rw [filt_succ, if_pos e], by omega, e, fun i h1 h2 => by omega⟩
    · have e' : filt q (n + 1) = filt q n := by rw [filt_succ, if_neg e, List.append_nil]
      rw [e'] at h
      obtain ⟨r, k, h1, h2, h3, h4⟩ := filt_last q n h
      refine ⟨r, k, by rw [e', h1], by omega, h3, fun i hi1 hi2 => ?_⟩
      by_cases ei : i = n
      · subst ei; simpa using e
      · exact h4 i hi1 (by omega)
theorem filt_nil {q : Nat → Bool} {n : Nat} (h : filt q n = []) : ∀ i, i < n → q i = false := by
  intro i hi
  cases e : q i with
  | false => rfl
  | true =>
    exfalso
    obtain ⟨r, hr⟩ := filt_split q (i + 1) n (by omega)
    rw [filt_succ, e, h] at hr
    simp at hr
theorem dots_none {l : List Nat} (h : filt (fun i => l.getD i 0 == 46) (headL l).length = []) : tailDot (headL l) = headL l := by
  refine tailDot_none fun c hc e => ?_
  subst e
  obtain ⟨i, hi⟩ := List.mem_iff_getElem?.mp hc
  have hlt : i < (headL l).length := (List.getElem?_eq_some_iff.mp hi).1
  have := filt_nil h i hlt
  have e2 : l[i]? = some 46 := by
    rw [← hi, ← headL_take l, List.getElem?_take, if_pos hlt]
  rw [getD_some (by have := headL_le l; omega)] at e2
  rw [Option.some.inj e2] at this
  cases this
theorem dots_last {l : List Nat} {k : Nat} (h1 : k < (headL l).length) (h2 : (l.getD k 0 == 46) = true) (h3 : ∀ i, k < i → i < (headL l).length → (l.getD i 0 == 46) = false) : (headL l).drop (k + 1) = tailDot (headL l) := by
  have hle := headL_le l
  have := tailDot_at (l := l) (e := (headL l).length) h1 hle (by rw [getD_some (by omega)]; simpa using h2) (fun i hi1 hi2 he => by
    rw [getD_some (by omega)] at he
    have := h3 i hi1 hi2
    rw [Option.some.inj he] at this; cases this)
  rw [headL_take] at this
  rw [this, ← List.drop_take, headL_take]

theorem filt_length (q : Nat → Bool) (n : Nat) : (filt q n).length ≤ n := by
  unfold filt
  rw [List.length_map]
  have := List.length_filter_le q (List.range n)
  simpa using this
theorem list_item {prog : Program} {w : World} {A : Around} {E : Value → Shared → Prop} {s : Shared} {value slice : PySem.Expr} {l : Addr} {vs : List Value} {k : Int} {j : Nat} {u : Tok} {v : Value} {Q : Value → Shared → Prop}
    (hl : s.heap.IsList l vs.toArray) (hk : k = j) (hz : j ≤ 1000) (hx : vs[j]? = some v) (h : Q v s)
    (hs : subscripted slice false (.ref l) (.int k u) = operate [.ref l, .int k u] (getItem (.ref l) (.int k u))) :
    wpAny (model prog w) A (subscriptTail value slice (.ref l) (.int k u)) Q E s := by
  subst hk
  exact tail_any hl.typeIs slot_list_getitem.lookup (wpAny_getItem_list hl (by omega) (by omega) (by simpa using hx) h) hs
theorem ints_last : ∀ {vs : List Value} {r : List Int} {k : Int}, IntsAre vs (r ++ [k]) → ∃ vs' t, vs = vs' ++ [.int k t]
  | _, [], k, h => by
    obtain ⟨t, vs', rfl, h'⟩ := IntsAre.cons_inv h
    rw [IntsAre.nil_inv h']
    exact ⟨[], t, rfl⟩
  | _, n :: r, k, h => by
    obtain ⟨t, vs', rfl, h'⟩ := IntsAre.cons_inv (ns := r ++ [k]) h
    obtain ⟨vs'', t', rfl⟩ := ints_last h'
    exact ⟨.int n t :: vs'', t', rfl⟩
theorem list_neg1 {prog : Program} {w : World} {A : Around} {E : Value → Shared → Prop} {s : Shared} {value slice : PySem.Expr} {l : Addr} {vs : List Value} {u : Tok} {v : Value} {Q : Value → Shared → Prop}
    (hl : s.heap.IsList l (vs ++ [v]).toArray) (h : Q v s)
    (hs : subscripted slice false (.ref l) (.int (-1) u) = operate [.ref l, .int (-1) u] (getItem (.ref l) (.int (-1) u))) :
    wpAny (model prog w) A (subscriptTail value slice (.ref l) (.int (-1) u)) Q E s := by
  refine tail_any hl.typeIs slot_list_getitem.lookup (wpAny_getItem_list_neg hl (by omega) (by simp; omega) (by omega) ?_ h) hs
  have e : ((-1 : Int) + ((vs ++ [v]).toArray.size : Int)).toNat = vs.length := by simp; omega
  rw [e]; simp
theorem str_add {prog : Program} {w : World} {A : Around} {E : Value → Shared → Prop} {s : Shared} {t u : Tok} {Q : Value → Shared → Prop} {x y : Str} {a b : List Nat} (hx : x = txt a) (hy : y = txt b) (hz : a.length + b.length ≤ 10000)
    (h : ∀ t' k, Q (.str (txt (a ++ b)) t') { s with toks := k }) : wpAny (model prog w) A (binaryOp .Add (.str x t) (.str y u)) Q E s := by
  subst hx hy
  refine SB.add (hsz := by rw [txt_length, txt_length, sizeLine_eq]; omega) fun t' k => ?_
  rw [txt_append]
  exact h t' k
theorem stop_sub {M : Model} {A : Around} {E : Value → Shared → Prop} {s : Shared} {value slice : PySem.Expr} {a b : Value} {Q : Value → Shared → Prop} (h : Stop (wpAny M A (subscriptTail value slice a b) Q E s)) : wpAny M A (subscriptTail value slice a b) Q E s := h.out
theorem stop_bin {M : Model} {A : Around} {E : Value → Shared → Prop} {s : Shared} {o : Operator} {a b : Value} {Q : Value → Shared → Prop} (h : Stop (wpAny M A (binaryOp o a b) Q E s)) : wpAny M A (binaryOp o a b) Q E s := h.out
theorem tailDot_le (l : List Nat) : (tailDot l).length ≤ l.length := by
  unfold tailDot
  rw [List.length_reverse]
  have := (List.takeWhile_sublist (fun c => c != 46) (l := l.reverse)).length_le
  simpa using this
def boxT (cr : List Nat) (xa xb : Nat) : List Nat := repL xa [35, 32] ++ cr ++ repL xb [32, 35]
def boxN (cr : List Nat) (xa xb : Nat) : List Nat :=
  (if 46 ∈ headL cr then tailDot (headL cr) else repL xa [35, 32] ++ headL cr) ++ (if (headL cr).length = cr.length then repL xb [32, 35] else [])
theorem dots_mem {l : List Nat} {k : Nat} (h1 : k < (headL l).length) (h2 : (l.getD k 0 == 46) = true) : 46 ∈ headL l := by
  have hle := headL_le l
  have e2 : (headL l)[k]? = some 46 := by
    rw [← headL_take l, List.getElem?_take, if_pos h1, getD_some (by omega)]
    rw [beq_iff_eq.mp h2]
  exact List.mem_of_getElem? e2
theorem dots_notMem {l : List Nat} (h : filt (fun i => l.getD i 0 == 46) (headL l).length = []) : 46 ∉ headL l := by
  intro hc
  obtain ⟨i, hi⟩ := List.mem_iff_getElem?.mp hc
  have hlt : i < (headL l).length := (List.getElem?_eq_some_iff.mp hi).1
  have := filt_nil h i hlt
  have e2 : l[i]? = some 46 := by
    rw [← hi, ← headL_take l, List.getElem?_take, if_pos hlt]
  rw [getD_some (by have := headL_le l; omega)] at e2
  rw [Option.some.inj e2] at this
  cases this
end Mine
end
theorem Mine.reset_Plain3 : True := by
  w_top off
  trivial
/-! part Elt -/
section
open PySem PySem.W PyProof.Rows PySem.Calls
open LCg LCt
set_option Elab.async false
set_option maxRecDepth 100000
namespace Mine
theorem texts_of : ∀ {ys : List Value} {ks : List Nat}, ys.length = ks.length → (∀ (i : Nat) y, ys[i]? = some y → ∃ c t, ks[i]? = some c ∧ y = .str (txt [c]) t) → Texts ys (ks.map fun c => [c])
  | [], [], _, _ => .nil
  | y :: ys, k :: ks, hl, h => by
    obtain ⟨c, t, e, rfl⟩ := h 0 y rfl
    cases Option.some.inj e
    exact .cons (texts_of (Nat.succ.inj hl) fun i y hy => h (i + 1) y hy)
theorem ints_of : ∀ {ys : List Value} {ks : List Int}, ys.length = ks.length → (∀ (i : Nat) y, ys[i]? = some y → ∃ c t, ks[i]? = some c ∧ y = .int c t) → IntsAre ys ks
  | [], [], _, _ => .nil
  | y :: ys, k :: ks, hl, h => by
    obtain ⟨c, t, e, rfl⟩ := h 0 y rfl
    cases Option.some.inj e
    exact .cons _ _ (ints_of (Nat.succ.inj hl) fun i y hy => h (i + 1) y hy)
section
variable {prog : Program} {w : World} {A : Around} {E : Value → Shared → Prop} {s : Shared} {h₀ : Heap} {L : Addr} {m : Str → Option Value} {env : Env}
  {x : Str} {scope : Scope} {cl : List (Str × Addr)} {C : Addr} {oC : Obj} {m₂ : Str → Option Value} {h : Heap} {tk : Nat} {Q : Value → Shared → Prop}
theorem comp_name {p : Pos} {v : Value} (hkind : scope.kind = .function) (hx : scope.names.lookup x = some .local) (hoC : NsObj oC m₂) (hC : h.get? C = some oC) (hm : m₂ x = some v)
    (hQ : Q v { s with heap := h, toks := tk }) (hd2 : (x == ("__debug__" : Str)) = false) :
    wpAny (model prog w) A (eval (.Name x p) (compEnvC scope cl C env)) Q E { s with heap := h, toks := tk } :=
  wpAny_Name (wpAny_loadName_local (env := compEnvC scope cl C env) hkind (lookup_relabel_local hx) (hoC.ns hC) hm hQ) hd2
theorem elt_menu {p1 p2 p3 p4 p5 : Pos} {cs : Str} {kk k9 : Nat} {n : Int} {t : Tok} (l : List Nat) (hkind : scope.kind = .function) (hx : scope.names.lookup x = some .local) (hoC : NsObj oC m₂) (hC : h.get? C = some oC) (hm : m₂ x = some (.int n t))
    (hcs : cs = txt l) (h9 : l.length = 9) (hQ : ∀ t' tk', Q (.str (txt [l.getD (n % 9).toNat 0]) t') { s with heap := h, toks := tk' }) (hd2 : (x == ("__debug__" : Str)) = false)
    (hs : ∀ k t u, subscripted (.BinOp (.Name x p2) .Mod (.Constant (.int 9) k9 p3) p4) false (.str (txt l) t) (.int k u) = operate [.str (txt l) t, .int k u] (getItem (.str (txt l) t) (.int k u)))
    (ht : ∀ t r, letTemporaryGo (.Constant (.str cs) kk p1) (.str (txt l) t) r = pure ()) :
    wpAny (model prog w) A (eval (.Subscript (.Constant (.str cs) kk p1) (.BinOp (.Name x p2) .Mod (.Constant (.int 9) k9 p3) p4) p5) (compEnvC scope cl C env)) Q E { s with heap := h, toks := tk } := by
  refine Subscript_ (wpAny_Constant_str ?_)
  refine wpAny_BinOp (comp_name hkind hx hoC hC hm ?_ hd2)
  refine wpAny_Constant_int (mod_int (by decide) ?_)
  have hn0 : 0 ≤ n % 9 := Int.emod_nonneg _ (by decide)
  have hn9 : n % 9 < 9 := Int.emod_lt_of_pos _ (by decide)
  have e : n.fmod 9 = ((n % 9).toNat : Int) := by rw [Int.fmod_eq_emod_of_nonneg _ (by decide)]; omega
  rw [e]
  subst hcs
  refine sign_item (l := l) rfl (getD_some (by omega)) ?_ (hs _ _ _) (ht _) (by omega)
  exact hQ _ _
theorem elt_step {p2 p3 p4 p5 p6 : Pos} {k9 k2 : Nat} {n : Int} {t : Tok} (hkind : scope.kind = .function) (hx : scope.names.lookup x = some .local) (hoC : NsObj oC m₂) (hC : h.get? C = some oC) (hm : m₂ x = some (.int n t))
    (hQ : ∀ t' tk', Q (.int (n / 9 % 2) t') { s with heap := h, toks := tk' }) (hd2 : (x == ("__debug__" : Str)) = false) :
    wpAny (model prog w) A (eval (.BinOp (.BinOp (.Name x p2) .FloorDiv (.Constant (.int 9) k9 p3) p4) .Mod (.Constant (.int 2) k2 p5) p6) (compEnvC scope cl C env)) Q E { s with heap := h, toks := tk } := by
  refine wpAny_BinOp (wpAny_BinOp (comp_name hkind hx hoC hC hm ?_ hd2))
  refine wpAny_Constant_int (floordiv_int (by decide) ?_)
  refine wpAny_Constant_int (mod_int (by decide) ?_)
  rw [Int.fmod_eq_emod_of_nonneg _ (by decide), Int.fdiv_eq_ediv_of_nonneg _ (by decide)]
  exact hQ _ _
/-- a call of a builtin on the walked thing -/
theorem elt_call {f : Str} {id : String} {p1 p2 p3 : Pos} {v : Value} {mg mb : Str → Option Value} (hkind : scope.kind = .function) (hx : scope.names.lookup x = some .local) (hoC : NsObj oC m₂) (hC : h.get? C = some oC) (hm : m₂ x = some v)
    (hf : (compEnvC scope cl C env).kindOf f = some .globalImplicit) (hg : h.Ns (compEnvC scope cl C env).globals mg) (hmiss : mg f = none) (hb : h.Ns (compEnvC scope cl C env).builtins mb) (hv : mb f = some (.builtin id))
    (hQ : wpAny (model prog w) A (call (.builtin id) [v]) Q E { s with heap := h, toks := tk }) (hd1 : (f == ("__debug__" : Str)) = false) (hd2 : (x == ("__debug__" : Str)) = false)
    (hs : starEach [.Name x p2] (compEnvC scope cl C env) = [(false, eval (.Name x p2) (compEnvC scope cl C env))]) :
    wpAny (model prog w) A (eval (.Call (.Name f p1) [.Name x p2] [] p3) (compEnvC scope cl C env)) Q E { s with heap := h, toks := tk } := by
  refine Call_name1 hs (Name_function_global (env := compEnvC scope cl C env) hkind hf (loadGlobal_builtin (env := compEnvC scope cl C env) hg hmiss hb hv ?_) hd1)
  exact callWith_builtin1 (comp_name hkind hx hoC hC hm hQ hd2)
theorem src_str {y : Str} {t : Tok} (hh : A.handled = none) (Q' : Value → Shared → Prop) (H : ∀ (o : Obj) (St : Nat → Heap → Prop), Walks prog w A s.heap.objs.size [s.heap.objs.size] [s.heap.objs.size] y.cps.size (SignAt y) St → St 0 (s.heap.push o) → (∀ i h, St i h → ∃ o, h.get? s.heap.objs.size = some o) →
        Q' (.ref s.heap.objs.size) { s with heap := s.heap.push o }) : wpAny (model prog w) A (pyIter (.str y t)) Q' E s := by
  cases ha : y.cps.all (· < 128)
  · exact wpAny_pyIter_wide ha (H _ _ (Walks.strWide hh _ y t) ⟨_, Heap.get?_push_size _ rfl, rfl, rfl⟩ fun i h ⟨o, e, _⟩ => ⟨o, e⟩)
  · exact wpAny_pyIter_ascii ha (H _ _ (Walks.strAscii hh _ y t) ⟨_, Heap.get?_push_size _ rfl, rfl, rfl⟩ fun i h ⟨o, e, _⟩ => ⟨o, e⟩)
theorem src_bytes {b : Array UInt8} {t : Tok} (hh : A.handled = none) (Q' : Value → Shared → Prop) (H : ∀ (o : Obj) (St : Nat → Heap → Prop), Walks prog w A s.heap.objs.size [s.heap.objs.size] [s.heap.objs.size] b.size (fun i v => ∃ c u, b[i]? = some c ∧ v = .int (c.toNat : Int) u) St → St 0 (s.heap.push o) → (∀ i h, St i h → ∃ o, h.get? s.heap.objs.size = some o) →
        Q' (.ref s.heap.objs.size) { s with heap := s.heap.push o }) : wpAny (model prog w) A (pyIter (.bytes b t)) Q' E s :=
  KBw.pyIter_bytes (H _ _ (KBw.walks hh _ b t) ⟨_, Heap.get?_push_size _ rfl, rfl, rfl⟩ fun i h ⟨o, e, _⟩ => ⟨o, e⟩)
end
end Mine
end
theorem Mine.reset_Elt : True := by
  w_top off
  trivial
/-! part Plain4 -/
section
open PySem PySem.W PyProof.Rows
set_option Elab.async false
set_option maxRecDepth 100000
namespace Mine
def menuL : List Nat := [32, 9, 10, 160, 46, 58, 97, 98, 35]
def lineL (ns : List Int) : List Nat := (ns.take 8).map fun x => menuL.getD (x % 9).toNat 0
def stepsL (ns : List Int) : List Int := ((ns.take 8).map fun x => x / 9 % 2) ++ [0, 1, 0, 1]
def whiteB (c : Nat) : Bool := decide (c ∈ [32, 9, 10, 160])
def rstripW (l : List Nat) : List Nat := (l.reverse.dropWhile whiteB).reverse
def lstripW (l : List Nat) : List Nat := l.dropWhile whiteB
def commentL (l : List Nat) : List Nat := if rstripW l = [] then [35] else [35, 32] ++ rstripW l
def keptN (ln kp : List Nat) (sds : List Int) (sd : Int) : List Nat := if sds = [] then (if sd = 0 then rstripW ln else lstripW ln) else kp
def coreL (kp : List Nat) (sd : Int) : List Nat := if sd = 1 then kp.reverse else kp
def aheadN (sds : List Int) (sd : Int) : Nat := if sd = 1 then sds.count 1 else sds.count 0
def behindN (sds : List Int) (sd : Int) : Nat := if sd = 1 then sds.count 0 else sds.count 1
def boxedT (kp : List Nat) (sds : List Int) (sd : Int) : List Nat := if kp = [] then rowL (sds.count 0 + sds.count 1) else boxT (coreL kp sd) (aheadN sds sd) (behindN sds sd)
def boxedN (kp : List Nat) (sds : List Int) (sd : Int) : List Nat := if kp = [] then rowL (sds.count 0 + sds.count 1) else boxN (coreL kp sd) (aheadN sds sd) (behindN sds sd)
structure Inv (ns : List Int) (i : Nat) (kp : List Nat) (sds : List Int) (sd : Int) (tx : List Nat) : Prop where
  menu : ∀ c ∈ kp, c ∈ menuL
  klen : kp.length ≤ 8
  slen : sds.length ≤ i
  bin : ∀ n ∈ sds, n = 0 ∨ n = 1
  side : sd = 0 ∨ sd = 1
  text : tx = boxedT kp sds sd
  white1 : kp ≠ [] → sds.count 0 ≠ 0 → sds.count 1 = 0 → ∀ c, kp.getLast? = some c → whiteB c = false
  white0 : kp ≠ [] → sds.count 1 ≠ 0 → sds.count 0 = 0 → ∀ c, kp.head? = some c → whiteB c = false
  first : sds = [] → kp = lineL ns
  none : sds = [] → lineL ns = [] → i = 0
theorem strip_mem {l : List Nat} {c : Nat} (h : c ∈ stripL l) : c ∈ l := by
  unfold stripL tailDot headL at h
  exact List.takeWhile_sublist _ |>.subset (List.mem_reverse.mp ((List.takeWhile_sublist _).subset (List.mem_reverse.mp h)))
def solidF (ln : List Nat) : List Int := filt (fun k => !whiteB (ln.getD k 0)) ln.length
theorem octets_back {tx : List Nat} (h : ∀ c ∈ tx, c < 256) {i : Nat} {c : UInt8} (e : (byteArr (tx.map fun c : Nat => (c : Int))).reverse[i]? = some c) : tx.reverse[i]? = some c.toNat := by
  unfold byteArr at e
  rw [List.map_map, List.reverse_toArray, List.getElem?_toArray, ← List.map_reverse, List.getElem?_map] at e
  cases q : tx.reverse[i]? with
  | none => rw [q] at e; cases e
  | some d =>
    rw [q] at e
    have hd : d < 256 := h d (List.mem_reverse.mp (List.mem_of_getElem? q))
    have e' : d.toUInt8 = c := Option.some.inj e
    rw [← e']
    congr 1
    simp [Nat.toUInt8, UInt8.toNat_ofNat']
    omega
end Mine
end
theorem Mine.reset_Plain4 : True := by
  w_top off
  trivial
/-! part PlainA -/
section
open PySem PySem.W PyProof.Rows
set_option Elab.async false
set_option maxRecDepth 100000
namespace Mine
theorem repL_zero (l : List Nat) : repL 0 l = [] := rfl
theorem repL_succ (n : Nat) (l : List Nat) : repL (n + 1) l = l ++ repL n l := by unfold repL; rw [List.replicate_succ, List.flatten_cons]
theorem repL_succ' (n : Nat) (l : List Nat) : repL (n + 1) l = repL n l ++ l := by
  induction n with
  | zero => simp [repL]
  | succ n ih => rw [repL_succ (n + 1), ih, ← List.append_assoc, ← repL_succ, ih]
theorem repL_mem {n : Nat} {l : List Nat} {c : Nat} (h : c ∈ repL n l) : c ∈ l := by
  unfold repL at h
  obtain ⟨x, hx, hc⟩ := List.mem_flatten.mp h
  rw [List.eq_of_mem_replicate hx] at hc; exact hc
theorem repL_reverse (n : Nat) (l : List Nat) : (repL n l).reverse = repL n l.reverse := by
  induction n with
  | zero => rfl
  | succ n ih => rw [repL_succ, List.reverse_append, ih, ← repL_succ']
theorem rowL_zero : rowL 0 = [] := rfl
theorem rowL_one : rowL 1 = [35] := rfl
theorem rowL_two (n : Nat) : rowL (n + 2) = [35, 32] ++ rowL (n + 1) := by
  unfold rowL
  rw [List.replicate_succ, List.replicate_succ]
  rfl
theorem rowL_eq (n : Nat) : rowL (n + 1) = repL n [35, 32] ++ [35] := by
  induction n with
  | zero => rfl
  | succ n ih => rw [rowL_two, ih, repL_succ]; simp
theorem rowL_mem {n c : Nat} (h : c ∈ rowL n) : c = 35 ∨ c = 32 := by
  cases n with
  | zero => rw [rowL_zero] at h; cases h
  | succ n =>
    rw [rowL_eq] at h
    rcases List.mem_append.mp h with h | h
    · have := repL_mem h; simpa using this
    · left; simpa using h
theorem rowL_eq' (n : Nat) : rowL (n + 1) = [35] ++ repL n [32, 35] := by
  rw [rowL_eq]
  induction n with
  | zero => rfl
  | succ n ih => rw [repL_succ', List.append_assoc, show [35, 32] ++ [35] = ([35] ++ [32, 35] : List Nat) from rfl, ← List.append_assoc, ih, List.append_assoc, ← repL_succ']
theorem rowL_reverse (n : Nat) : (rowL n).reverse = rowL n := by
  cases n with
  | zero => rfl
  | succ n => rw [rowL_eq, List.reverse_append, repL_reverse, ← rowL_eq, rowL_eq']; rfl
theorem rowL_ne {n : Nat} (h : n ≠ 0) : rowL n ≠ [] := by
  cases n with
  | zero => exact absurd rfl h
  | succ n => rw [rowL_eq]; simp
theorem rowL_length (n : Nat) : (rowL n).length ≤ 2 * n := by
  cases n with
  | zero => simp [rowL_zero]
  | succ n => rw [rowL_eq, List.length_append, repL_length]; show n * 2 + 1 ≤ _; omega
theorem rstrip_id {l : List Nat} (h : ∀ c, l.getLast? = some c → whiteB c = false) : rstripW l = l := by
  unfold rstripW
  rw [List.getLast?_eq_head?_reverse] at h
  cases e : l.reverse with
  | nil => rw [List.reverse_eq_nil_iff.mp e]; rfl
  | cons a r =>
    rw [e] at h
    have := h a rfl
    rw [List.dropWhile_cons, if_neg (by rw [this]; decide), ← e, List.reverse_reverse]
theorem dropWhile_head {l : List Nat} {c : Nat} (h : (l.dropWhile whiteB).head? = some c) : whiteB c = false := by
  induction l with
  | nil => cases h
  | cons a r ih =>
    rw [List.dropWhile_cons] at h
    by_cases ha : whiteB a = true
    · rw [if_pos ha] at h; exact ih h
    · rw [if_neg ha] at h
      cases h
      simpa using ha
theorem rstrip_last {l : List Nat} {c : Nat} (h : (rstripW l).getLast? = some c) : whiteB c = false := by
  unfold rstripW at h
  rw [List.getLast?_reverse] at h
  exact dropWhile_head h
theorem rstrip_mem {l : List Nat} {c : Nat} (h : c ∈ rstripW l) : c ∈ l := by
  unfold rstripW at h
  exact List.mem_reverse.mp ((List.dropWhile_sublist _).subset (List.mem_reverse.mp h))
theorem lstrip_mem {l : List Nat} {c : Nat} (h : c ∈ lstripW l) : c ∈ l := (List.dropWhile_sublist _).subset h
theorem rstrip_length (l : List Nat) : (rstripW l).length ≤ l.length := by
  unfold rstripW
  rw [List.length_reverse]
  have := (List.dropWhile_sublist whiteB (l := l.reverse)).length_le
  simpa using this
theorem lstrip_length (l : List Nat) : (lstripW l).length ≤ l.length := (List.dropWhile_sublist whiteB (l := l)).length_le
theorem rstrip_rev (l : List Nat) : rstripW l.reverse = (lstripW l).reverse := by unfold rstripW lstripW; rw [List.reverse_reverse]
theorem take_drop_rev (p : Nat → Bool) (l : List Nat) : (l.reverse.dropWhile p).reverse = l.take (l.length - (l.reverse.takeWhile p).length) := by
  have h := List.takeWhile_append_dropWhile (p := p) (l := l.reverse)
  have e : l = (l.reverse.dropWhile p).reverse ++ (l.reverse.takeWhile p).reverse := by
    rw [← List.reverse_append, h, List.reverse_reverse]
  have hl : l.length = (l.reverse.dropWhile p).length + (l.reverse.takeWhile p).length := by
    have := congrArg List.length h
    simp only [List.length_append, List.length_reverse] at this; omega
  generalize (l.reverse.dropWhile p) = D at e hl ⊢
  generalize (l.reverse.takeWhile p) = K at e hl ⊢
  subst e
  rw [List.take_left' (by simp only [List.length_reverse, List.length_append]; omega)]
end Mine
end
theorem Mine.reset_PlainA : True := by
  w_top off
  trivial
/-! part PlainB -/
section
open PySem PySem.W PyProof.Rows
set_option Elab.async false
set_option maxRecDepth 100000
namespace Mine
theorem line_menu (ns : List Int) : ∀ c ∈ lineL ns, c ∈ menuL := by
  intro c hc
  obtain ⟨x, _, rfl⟩ := List.mem_map.mp hc
  have h : (x % 9).toNat < menuL.length := by show _ < 9; omega
  rw [List.getD_eq_getElem?_getD, List.getElem?_eq_getElem h, Option.getD_some]
  exact List.getElem_mem h
theorem line_length (ns : List Int) : (lineL ns).length ≤ 8 := by
  unfold lineL; rw [List.length_map, List.length_take]; omega
theorem steps_bin {ns : List Int} {i : Nat} {n : Int} (h : (stepsL ns)[i]? = some n) : n = 0 ∨ n = 1 := by
  have hm := List.mem_of_getElem? h
  unfold stepsL at hm
  rcases List.mem_append.mp hm with hm | hm
  · obtain ⟨x, _, rfl⟩ := List.mem_map.mp hm
    omega
  · simp only [List.mem_cons, List.not_mem_nil, or_false] at hm; omega
theorem boxT_zero (cr : List Nat) : boxT cr 0 0 = cr := by simp [boxT, repL_zero]
theorem boxedT_start (kp : List Nat) (sd : Int) : boxedT kp [] sd = coreL kp sd := by
  unfold boxedT
  split
  · rename_i h; subst h; unfold coreL; split <;> rfl
  · have a0 : aheadN [] sd = 0 := by unfold aheadN; split <;> rfl
    have b0 : behindN [] sd = 0 := by unfold behindN; split <;> rfl
    rw [a0, b0, boxT_zero]
theorem inv_init (ns : List Int) : Inv ns 0 (lineL ns) [] 0 (lineL ns) where
  menu := line_menu ns
  klen := line_length ns
  slen := Nat.le_refl _
  bin := fun n h => by cases h
  side := .inl rfl
  text := by rw [boxedT_start]; rfl
  white1 := fun _ h => absurd rfl h
  white0 := fun _ h => absurd rfl h
  first := fun _ => rfl
  none := fun _ _ => rfl
theorem count_sum {sds : List Int} (h : ∀ n ∈ sds, n = 0 ∨ n = 1) : sds.count 0 + sds.count 1 = sds.length := by
  induction sds with
  | nil => rfl
  | cons a r ih =>
    have h1 := ih fun n hn => h n (.tail _ hn)
    rcases h a (.head _) with rfl | rfl
    · rw [List.count_cons_self, List.count_cons_of_ne (by decide), List.length_cons]; omega
    · rw [List.count_cons_self, List.count_cons_of_ne (by decide), List.length_cons]; omega
theorem ahead_behind (sds : List Int) (sd : Int) : aheadN sds sd + behindN sds sd = sds.count 0 + sds.count 1 := by
  unfold aheadN behindN; split <;> omega
theorem core_mem {kp : List Nat} {sd : Int} {c : Nat} (h : c ∈ coreL kp sd) : c ∈ kp := by
  unfold coreL at h
  split at h
  · exact List.mem_reverse.mp h
  · exact h
theorem core_length (kp : List Nat) (sd : Int) : (coreL kp sd).length = kp.length := by
  unfold coreL; split <;> simp
theorem core_ne {kp : List Nat} {sd : Int} (h : kp ≠ []) : coreL kp sd ≠ [] := by
  intro e
  have := core_length kp sd
  rw [e] at this
  exact h (List.length_eq_zero_iff.mp this.symm)
section
variable {ns : List Int} {i : Nat} {kp : List Nat} {sds : List Int} {sd : Int} {tx : List Nat}
theorem inv_menu (I : Inv ns i kp sds sd tx) : ∀ c ∈ tx, c ∈ menuL := by
  intro c hc
  rw [I.text] at hc
  unfold boxedT boxT at hc
  split at hc
  · rcases rowL_mem hc with rfl | rfl <;> decide
  · rcases List.mem_append.mp hc with hc | hc
    · rcases List.mem_append.mp hc with hc | hc
      · have := repL_mem hc
        simp only [List.mem_cons, List.not_mem_nil, or_false] at this
        rcases this with rfl | rfl <;> decide
      · exact I.menu c (core_mem hc)
    · have := repL_mem hc
      simp only [List.mem_cons, List.not_mem_nil, or_false] at this
      rcases this with rfl | rfl <;> decide
theorem inv_small (I : Inv ns i kp sds sd tx) (hi : i ≤ 12) : tx.length ≤ 60 ∧ sds.count 0 ≤ 20 ∧ sds.count 1 ≤ 20 ∧ (∀ c ∈ tx, c < 256) := by
  have hs := count_sum I.bin
  have hl := I.slen
  refine ⟨?_, by omega, by omega, fun c hc => ?_⟩
  · rw [I.text]
    unfold boxedT boxT
    split
    · have := rowL_length (sds.count 0 + sds.count 1); omega
    · have hab := ahead_behind sds sd
      have hk := I.klen
      simp only [List.length_append, repL_length, core_length, List.length_cons, List.length_nil]
      omega
  · have := inv_menu I c hc
    have key : ∀ d ∈ menuL, d < 256 := by decide
    exact key c this
theorem text_ne (I : Inv ns i kp sds sd tx) (h : kp ≠ [] ∨ sds ≠ []) : tx ≠ [] := by
  rw [I.text]
  unfold boxedT boxT
  split
  · refine rowL_ne ?_
    have hs := count_sum I.bin
    rcases h with h | h
    · contradiction
    · have := List.length_pos_iff.mpr h; omega
  · rename_i hk
    have := core_ne (sd := sd) hk
    simp [this]
theorem boxT_reverse (cr : List Nat) (a b : Nat) : (boxT cr a b).reverse = boxT cr.reverse b a := by
  unfold boxT
  rw [List.reverse_append, List.reverse_append, repL_reverse, repL_reverse, List.append_assoc]
  rfl
theorem boxedT_turn (kp : List Nat) (sds : List Int) {sd : Int} (h : sd = 0 ∨ sd = 1) : (boxedT kp sds sd).reverse = boxedT kp sds (1 - sd) := by
  unfold boxedT
  split
  · exact rowL_reverse _
  · rw [boxT_reverse]
    rcases h with rfl | rfl
    · rfl
    · show boxT kp.reverse.reverse _ _ = boxT kp _ _
      rw [List.reverse_reverse]; rfl
theorem inv_turn (I : Inv ns i kp sds sd tx) (h : (stepsL ns)[i]? = some 1) : tx ≠ [] ∧ Inv ns (i + 1) kp sds (1 - sd) tx.reverse := by
  have hno : sds = [] → lineL ns = [] → False := by
    intro h1 h2
    have h3 := I.none h1 h2
    subst h3
    have h4 : ns.take 8 = [] := List.map_eq_nil_iff.mp h2
    unfold stepsL at h
    rw [h4] at h
    cases h
  refine ⟨text_ne I ?_, ?_⟩
  · by_cases hs : sds = []
    · refine .inl fun hk => hno hs ?_
      rw [← I.first hs, hk]
    · exact .inr hs
  · exact { menu := I.menu, klen := I.klen, slen := Nat.le_succ_of_le I.slen, bin := I.bin, side := by have := I.side; omega, text := by rw [I.text, boxedT_turn _ _ I.side], white1 := I.white1, white0 := I.white0, first := I.first, none := fun a b => (hno a b).elim }
theorem kept_mem {ln : List Nat} (hl : ∀ c ∈ ln, c ∈ menuL) (hk : ∀ c ∈ kp, c ∈ menuL) : ∀ c ∈ keptN ln kp sds sd, c ∈ menuL := by
  intro c hc
  unfold keptN at hc
  split at hc
  · split at hc
    · exact hl c (rstrip_mem hc)
    · exact hl c (lstrip_mem hc)
  · exact hk c hc
theorem kept_length {ln : List Nat} (hl : ln.length ≤ 8) (hk : kp.length ≤ 8) : (keptN ln kp sds sd).length ≤ 8 := by
  unfold keptN
  split
  · split
    · have := rstrip_length ln; omega
    · have := lstrip_length ln; omega
  · exact hk
theorem repL_last (n : Nat) : (repL (n + 1) [32, 35]).getLast? = some 35 := by
  rw [repL_succ', List.getLast?_append]; rfl
theorem text_last (I : Inv ns i kp sds sd tx) (hs : sds ≠ []) : ∀ c, tx.getLast? = some c → whiteB c = false := by
  intro c hc
  rw [I.text] at hc
  have hsum := count_sum I.bin
  have hpos := List.length_pos_iff.mpr hs
  unfold boxedT at hc
  split at hc
  · obtain ⟨n, hn⟩ : ∃ n, sds.count 0 + sds.count 1 = n + 1 := ⟨sds.count 0 + sds.count 1 - 1, by omega⟩
    rw [hn, rowL_eq, List.getLast?_append] at hc
    cases hc; decide
  · rename_i hk
    unfold boxT at hc
    rw [List.getLast?_append] at hc
    by_cases hb : behindN sds sd = 0
    · rw [hb, repL_zero, List.getLast?_nil, Option.none_or, List.getLast?_append] at hc
      have hcore : (coreL kp sd).getLast? = some c := by
        cases e : (coreL kp sd).getLast? with
        | none => exact absurd (List.getLast?_eq_none_iff.mp e) (core_ne hk)
        | some d => rw [e] at hc; simpa using hc
      rcases I.side with rfl | rfl
      · have hb' : sds.count 1 = 0 := hb
        exact I.white1 hk (by omega) hb' c hcore
      · have hb' : sds.count 0 = 0 := hb
        refine I.white0 hk (by omega) hb' c ?_
        have : kp.reverse.getLast? = some c := hcore
        rwa [List.getLast?_reverse] at this
    · obtain ⟨n, hn⟩ : ∃ n, behindN sds sd = n + 1 := ⟨behindN sds sd - 1, by omega⟩
      rw [hn, repL_last] at hc
      cases hc; decide
theorem count_snoc0 (sds : List Int) (sd : Int) (h : sd = 0 ∨ sd = 1) : (sds ++ [sd]).count 0 = sds.count 0 + (if sd = 0 then 1 else 0) ∧ (sds ++ [sd]).count 1 = sds.count 1 + (if sd = 0 then 0 else 1) := by
  rw [List.count_append, List.count_append]
  rcases h with rfl | rfl <;> exact ⟨rfl, rfl⟩
theorem boxT_succ (cr : List Nat) (a b : Nat) : boxT cr (a + 1) b = [35, 32] ++ boxT cr a b := by
  unfold boxT; rw [repL_succ]; simp only [List.append_assoc]
theorem inv_comment (I : Inv ns i kp sds sd tx) (h : (stepsL ns)[i]? = some 0) : Inv ns (i + 1) (keptN (lineL ns) kp sds sd) (sds ++ [sd]) sd (commentL tx) := by
  have hc := count_snoc0 sds sd I.side
  have hne : sds ++ [sd] ≠ [] := by simp
  have hsum := count_sum I.bin
  refine { menu := kept_mem (line_menu ns) I.menu, klen := kept_length (line_length ns) I.klen, slen := by have := I.slen; simp; omega, bin := ?_, side := I.side, text := ?_, white1 := ?_, white0 := ?_, first := fun e => absurd e hne, none := fun e => absurd e hne }
  · intro n hn
    rcases List.mem_append.mp hn with hn | hn
    · exact I.bin n hn
    · rw [List.mem_singleton.mp hn]; exact I.side
  · by_cases hs : sds = []
    · have ht := I.text
      have hk := I.first hs
      subst hs
      rw [boxedT_start, hk] at ht
      have e : rstripW tx = coreL (keptN (lineL ns) kp [] sd) sd := by
        rw [ht]
        unfold keptN coreL
        rcases I.side with rfl | rfl
        · rfl
        · show rstripW (lineL ns).reverse = (lstripW (lineL ns)).reverse
          exact rstrip_rev _
      unfold commentL
      rw [e]
      generalize keptN (lineL ns) kp [] sd = kq
      unfold boxedT
      by_cases hq : kq = []
      · subst hq
        rw [if_pos rfl, if_pos (by unfold coreL; split <;> rfl)]
        rcases I.side with rfl | rfl <;> rfl
      · rw [if_neg hq, if_neg (core_ne hq)]
        have a1 : aheadN ([] ++ [sd]) sd = 0 + 1 := by rcases I.side with rfl | rfl <;> rfl
        have b1 : behindN ([] ++ [sd]) sd = 0 := by rcases I.side with rfl | rfl <;> rfl
        rw [a1, b1, boxT_succ, boxT_zero]
    · have e : rstripW tx = tx := rstrip_id (text_last I hs)
      have hk : keptN (lineL ns) kp sds sd = kp := if_neg hs
      have hpos := List.length_pos_iff.mpr hs
      unfold commentL
      rw [e, if_neg (text_ne I (.inr hs)), hk, I.text]
      unfold boxedT
      by_cases hq : kp = []
      · rw [if_pos hq, if_pos hq]
        have hsum' : (sds ++ [sd]).count 0 + (sds ++ [sd]).count 1 = (sds.count 0 + sds.count 1 - 1) + 2 := by rw [hc.1, hc.2]; split <;> omega
        rw [hsum', rowL_two, show sds.count 0 + sds.count 1 - 1 + 1 = sds.count 0 + sds.count 1 by omega]
      · rw [if_neg hq, if_neg hq, ← boxT_succ]
        have a1 : aheadN (sds ++ [sd]) sd = aheadN sds sd + 1 := by
          unfold aheadN; rw [hc.1, hc.2]
          rcases I.side with rfl | rfl <;> rfl
        have b1 : behindN (sds ++ [sd]) sd = behindN sds sd := by
          unfold behindN; rw [hc.1, hc.2]
          rcases I.side with rfl | rfl <;> rfl
        rw [a1, b1]
  · intro hk h0 h1 c hcl
    have hsd : sd = 0 := by
      rcases I.side with e | e
      · exact e
      · exfalso; rw [hc.2, if_neg (by omega)] at h1; omega
    subst hsd
    unfold keptN at hcl hk
    by_cases hs : sds = []
    · rw [if_pos hs, if_pos rfl] at hcl
      exact rstrip_last hcl
    · rw [if_neg hs] at hcl hk
      have hpos := List.length_pos_iff.mpr hs
      rw [hc.2] at h1
      exact I.white1 hk (by omega) (by omega) c hcl
  · intro hk h1 h0 c hcl
    have hsd : sd = 1 := by
      rcases I.side with e | e
      · exfalso; rw [hc.1, if_pos e] at h0; omega
      · exact e
    subst hsd
    unfold keptN at hcl hk
    by_cases hs : sds = []
    · rw [if_pos hs, if_neg (by decide)] at hcl
      exact dropWhile_head hcl
    · rw [if_neg hs] at hcl hk
      have hpos := List.length_pos_iff.mpr hs
      rw [hc.1] at h0
      exact I.white0 hk (by omega) (by omega) c hcl
end
end Mine
end
theorem Mine.reset_PlainB : True := by
  w_top off
  trivial
/-! part PlainC -/
section
open PySem PySem.W PyProof.Rows
set_option Elab.async false
set_option maxRecDepth 100000
namespace Mine
theorem mem_tw {p : Nat → Bool} : ∀ {l : List Nat} {c : Nat}, c ∈ l.takeWhile p → p c = true
  | [], _, h => by cases h
  | a :: l, c, h => by
    rw [List.takeWhile_cons] at h
    split at h
    · rename_i ha
      rcases List.mem_cons.mp h with rfl | h
      · exact ha
      · exact mem_tw h
    · cases h
theorem dw_all {p : Nat → Bool} : ∀ {l : List Nat}, (∀ c ∈ l, p c = true) → l.dropWhile p = []
  | [], _ => rfl
  | a :: l, h => by rw [List.dropWhile_cons, if_pos (h a (.head _)), dw_all fun c hc => h c (.tail _ hc)]
theorem headL_append {a b : List Nat} (h : ∀ c ∈ a, stopC c = false) : headL (a ++ b) = a ++ headL b := by
  unfold headL
  exact List.takeWhile_append_of_pos fun c hc => by rw [h c hc]; rfl
theorem headL_id {l : List Nat} (h : ∀ c ∈ l, stopC c = false) : headL l = l := takeWhile_all fun c hc => by rw [h c hc]; rfl
theorem headL_full {l : List Nat} (h : (headL l).length = l.length) : headL l = l := by
  have := headL_take l
  rw [h, List.take_length] at this
  exact this.symm
theorem headL_stop {a : List Nat} (b : List Nat) (h : (headL a).length ≠ a.length) : headL (a ++ b) = headL a := by
  unfold headL at h ⊢
  rw [List.takeWhile_append, if_neg h]
theorem headL_nostop {l : List Nat} {c : Nat} (h : c ∈ headL l) : stopC c = false := by
  unfold headL at h
  have := mem_tw h
  simpa using this
theorem tailDot_mem {a b : List Nat} (h : 46 ∈ b) : tailDot (a ++ b) = tailDot b := by
  unfold tailDot
  rw [List.reverse_append, List.takeWhile_append, if_neg]
  intro e
  have h1 : b.reverse.takeWhile (fun c => c != 46) = b.reverse := (List.takeWhile_sublist _).eq_of_length e
  have h2 : 46 ∈ b.reverse.takeWhile (fun c => c != 46) := by rw [h1]; exact List.mem_reverse.mpr h
  have := mem_tw h2
  simp at this
theorem tailDot_behind {a b : List Nat} (h : ∀ c ∈ b, c ≠ 46) : tailDot (a ++ b) = tailDot a ++ b := by
  unfold tailDot
  rw [List.reverse_append, List.takeWhile_append_of_pos, List.reverse_append, List.reverse_reverse]
  intro c hc
  have := h c (List.mem_reverse.mp hc)
  simpa using this
theorem row_plain {l : List Nat} (h : ∀ c ∈ l, c = 35 ∨ c = 32) : (∀ c ∈ l, stopC c = false) ∧ ∀ c ∈ l, c ≠ 46 := by
  refine ⟨fun c hc => ?_, fun c hc => ?_⟩
  · rcases h c hc with rfl | rfl <;> rfl
  · rcases h c hc with rfl | rfl <;> decide
theorem strip_box (cr : List Nat) (a b : Nat) : stripL (boxT cr a b) = boxN cr a b := by
  have hA := row_plain (l := repL a [35, 32]) fun c hc => by have := repL_mem hc; simpa using this
  have hB := row_plain (l := repL b [32, 35]) fun c hc => by have := repL_mem hc; simp at this; exact this.symm
  unfold stripL boxT boxN
  rw [List.append_assoc, headL_append hA.1]
  have hh : headL (cr ++ repL b [32, 35]) = headL cr ++ (if (headL cr).length = cr.length then repL b [32, 35] else []) := by
    split
    · rename_i e
      have e' := headL_full e
      rw [headL_append (fun c hc => headL_nostop (by rw [e']; exact hc)), headL_id hB.1, e']
    · rename_i e
      rw [headL_stop _ e, List.append_nil]
  rw [hh, ← List.append_assoc, tailDot_behind (by split; · exact hB.2
                                                  · intro c hc; cases hc)]
  congr 1
  split
  · rename_i e; rw [tailDot_mem e]
  · rename_i e
    refine tailDot_none fun c hc => ?_
    rcases List.mem_append.mp hc with hc | hc
    · exact hA.2 c hc
    · intro e'; subst e'; exact e hc
section
variable {ns : List Int} {i : Nat} {kp : List Nat} {sds : List Int} {sd : Int} {tx : List Nat}
theorem inv_name (I : Inv ns i kp sds sd tx) : stripL tx = boxedN kp sds sd := by
  rw [I.text]
  unfold boxedT boxedN
  split
  · have hR := row_plain (l := rowL (sds.count 0 + sds.count 1)) fun c hc => rowL_mem hc
    unfold stripL
    rw [headL_id hR.1, tailDot_none hR.2]
  · exact strip_box _ _ _
theorem takeWhile_congr' {p q : Nat → Bool} : ∀ {l : List Nat}, (∀ c ∈ l, p c = q c) → l.takeWhile p = l.takeWhile q
  | [], _ => rfl
  | a :: l, h => by
    rw [List.takeWhile_cons, List.takeWhile_cons, h a (.head _), takeWhile_congr' fun c hc => h c (.tail _ hc)]
theorem menu_space : ∀ c ∈ menuL, Unicode.isSpace c = whiteB c := by decide +kernel
theorem rstrip_txt {l : List Nat} (h : ∀ c ∈ l, c ∈ menuL) : Txt.rstrip (txt l) = txt (rstripW l) := by
  unfold Txt.rstrip
  rw [PySem.W.stripBy_eq]
  show PySem.Builtin.Str.strSub (txt l) 0 ((txt l).length - ((l.drop 0).reverse.takeWhile Unicode.isSpace).length) = _
  rw [List.drop_zero, takeWhile_congr' (q := whiteB) fun c hc => menu_space c (h c (List.mem_reverse.mp hc)), txt_length]
  unfold rstripW
  rw [take_drop_rev]
  generalize l.length - _ = n
  show Str.mk (l.toArray.extract 0 n) = Str.mk (l.take n).toArray
  congr 1
  simp
theorem comment_txt (I : Inv ns i kp sds sd tx) : (if (Txt.rstrip (txt tx)).length = 0 then Str.ofString "#" else Str.ofString "# " ++ Txt.rstrip (txt tx)) = txt (commentL tx) := by
  rw [rstrip_txt (inv_menu I), txt_length]
  unfold commentL
  by_cases e : rstripW tx = []
  · rw [e, if_pos (show ([] : List Nat).length = 0 from rfl), if_pos (show ([] : List Nat) = [] from rfl)]; decide +kernel
  · rw [if_neg (fun e' => e (List.length_eq_zero_iff.mp e')), if_neg e, ← txt_append]
    congr 1
end
theorem white_rstrip {ln : List Nat} (h : ∀ c ∈ ln, whiteB c = true) : rstripW ln = [] := by
  unfold rstripW
  rw [List.reverse_eq_nil_iff]
  exact dw_all fun c hc => h c (List.mem_reverse.mp hc)
theorem white_lstrip {ln : List Nat} (h : ∀ c ∈ ln, whiteB c = true) : lstripW ln = [] := by
  unfold lstripW
  exact dw_all h
theorem solid_nil {ln : List Nat} (h : solidF ln = []) : rstripW ln = [] ∧ lstripW ln = [] := by
  have key : ∀ c ∈ ln, whiteB c = true := by
    intro c hc
    obtain ⟨k, hk⟩ := List.mem_iff_getElem?.mp hc
    have hlt : k < ln.length := (List.getElem?_eq_some_iff.mp hk).1
    have := filt_nil h k hlt
    rw [getD_some hlt] at hk
    rw [← Option.some.inj hk]
    simpa using this
  exact ⟨white_rstrip key, white_lstrip key⟩
theorem rstrip_append_white {a b : List Nat} (h : ∀ c ∈ b, whiteB c = true) : rstripW (a ++ b) = rstripW a := by
  unfold rstripW
  rw [List.reverse_append, List.dropWhile_append_of_pos fun c hc => h c (List.mem_reverse.mp hc)]
theorem lstrip_append_white {a b : List Nat} (h : ∀ c ∈ a, whiteB c = true) : lstripW (a ++ b) = lstripW b := by
  unfold lstripW
  rw [List.dropWhile_append_of_pos h]
theorem solid_last {ln : List Nat} {r : List Int} {k : Nat} (h : solidF ln = r ++ [(k : Int)]) : k < ln.length ∧ ln.take (k + 1) = rstripW ln := by
  have hne : solidF ln ≠ [] := by rw [h]; simp
  obtain ⟨r', k', h1, h2, h3, h4⟩ := filt_last _ _ hne
  have e : solidF ln = r' ++ [(k' : Int)] := h1
  rw [h] at e
  have e2 : (k : Int) = k' := by
    have := congrArg List.getLast? e
    simpa using this
  have e3 : k = k' := by omega
  subst e3
  refine ⟨h2, ?_⟩
  have hd : rstripW ln = rstripW (ln.take (k + 1)) := by
    conv => lhs; rw [← List.take_append_drop (k + 1) ln]
    refine rstrip_append_white fun c hc => ?_
    obtain ⟨j, hj⟩ := List.mem_iff_getElem?.mp hc
    rw [List.getElem?_drop] at hj
    have hlt := (List.getElem?_eq_some_iff.mp hj).1
    have := h4 (k + 1 + j) (by omega) hlt
    rw [getD_some hlt] at hj
    rw [← Option.some.inj hj]
    simpa using this
  rw [hd]
  refine (rstrip_id fun c hc => ?_).symm
  have e5 : (ln.take (k + 1)).getLast? = some (ln.getD k 0) := by
    rw [List.getLast?_eq_getElem?, List.length_take, Nat.min_eq_left (by omega), Nat.add_sub_cancel, List.getElem?_take, if_pos (by omega), getD_some h2]
  rw [e5] at hc
  rw [← Option.some.inj hc]
  simpa using h3
theorem filt_first (q : Nat → Bool) : ∀ n, filt q n ≠ [] → ∃ k r, filt q n = ((k : Nat) : Int) :: r ∧ k < n ∧ q k = true ∧ ∀ i, i < k → q i = false
  | 0, h => absurd rfl h
  | n + 1, h => by
    by_cases e : filt q n = []
    · by_cases e2 : q n = true
      · exact ⟨n, [], by rw [filt_succ, e, if_pos e2]; rfl, by omega, e2, fun i hi => filt_nil e i hi⟩
      · exact absurd (by rw [filt_succ, e, if_neg e2]; rfl) h
    · obtain ⟨k, r, h1, h2, h3, h4⟩ := filt_first q n e
      exact ⟨k, r ++ (if q n = true then [(n : Int)] else []), by rw [filt_succ, h1]; rfl, by omega, h3, h4⟩
theorem solid_first {ln : List Nat} {r : List Int} {k : Int} (h : solidF ln = k :: r) : 0 ≤ k ∧ k < ln.length ∧ ln.drop k.toNat = lstripW ln := by
  have hne : solidF ln ≠ [] := by rw [h]; simp
  obtain ⟨k', r', h1, h2, h3, h4⟩ := filt_first _ _ hne
  have e : solidF ln = (k' : Int) :: r' := h1
  rw [h] at e
  have e2 : k = (k' : Int) := (List.cons.inj e).1
  subst e2
  refine ⟨by omega, by omega, ?_⟩
  rw [Int.toNat_natCast]
  have hd : lstripW ln = lstripW (ln.drop k') := by
    conv => lhs; rw [← List.take_append_drop k' ln]
    refine lstrip_append_white fun c hc => ?_
    obtain ⟨j, hj⟩ := List.mem_iff_getElem?.mp hc
    rw [List.getElem?_take] at hj
    split at hj
    · rename_i hjk
      have := h4 j hjk
      rw [getD_some (by omega)] at hj
      rw [← Option.some.inj hj]
      simpa using this
    · cases hj
  rw [hd, List.drop_eq_getElem_cons h2]
  unfold lstripW
  have e6 : ln[k'] = ln.getD k' 0 := by
    have := getD_some h2
    rw [List.getElem?_eq_getElem h2] at this
    exact Option.some.inj this
  rw [List.dropWhile_cons, if_neg]
  rw [e6]
  simp at h3
  simp [h3]
end Mine
end
theorem Mine.reset_PlainC : True := by
  w_top off
  trivial
/-! part Pair -/
section
open PySem PySem.W PyProof.Rows PySem.Spec
set_option Elab.async false
set_option maxRecDepth 100000
namespace Mine
theorem ne_pair {prog : Program} {w : World} {A : Around} {E : Value → Shared → Prop} {s : Shared} {a b : Addr} {x y : Str} {t1 t2 u1 u2 : Tok} {Q : Value → Shared → Prop}
    (ha : s.heap.get? a = some { cls := Value.type "tuple", data := Data.seq #[Value.str x t1, Value.str y t2] }) (hb : s.heap.get? b = some { cls := Value.type "tuple", data := Data.seq #[Value.str x u1, Value.str y u2] })
    (hx : PyData.strOk x = true) (hy : PyData.strOk y = true) (hu : A.units + 64 < cLine) (h : Q (.bool false) s) : wpAny (model prog w) A (compareOp .NotEq (.ref a) (.ref b)) Q E s := by
  have hsh : SeqAt.shaped (.tuple [.str x, .str y]) = true := by simp [SeqAt.shaped, PyData.canLay0, PyData.depth, PyData.canLayAll0, PyData.depthAll, hx, hy]
  refine ne_dataH (da := .tuple [.str x, .str y]) (db := .tuple [.str x, .str y]) (reads_tuple_at ha rfl rfl (.cons (.str _ _) (.cons (.str _ _) .nil))) (reads_tuple_at hb rfl rfl (.cons (.str _ _) (.cons (.str _ _) .nil))) hsh hsh hu ?_
  have e : PyData.eqv (.tuple [.str x, .str y]) (.tuple [.str x, .str y]) = true := by simp [PyData.eqv, PyData.eqvAll]
  rw [e]; exact h
theorem strOk_txt {l : List Nat} (h : ∀ c ∈ l, c < 256) : PyData.strOk (txt l) = true := by
  unfold PyData.strOk txt
  rw [List.all_toArray, List.all_eq_true]
  intro c hc
  have := h c hc
  simp only [decide_eq_true_eq]; omega
end Mine
end
theorem Mine.reset_Pair : True := by
  w_top off
  trivial
/-! part Bya2 -/
section
open PySem PySem.W PyProof.Rows PySem.Calls
set_option Elab.async false
set_option maxRecDepth 100000
namespace Mine
section
variable {prog : Program} {w : World} {A : Around} {E : Value → Shared → Prop} {s : Shared}
theorem ba_setItem {a : Addr} {b : Array UInt8} {k : Int} {j : Nat} {x : UInt8} {v : Int} {t u : Tok} {Q : Unit → Shared → Prop} (hg : s.heap.get? a = some (baObj b)) (hk : k = j) (hj : j < b.size) (hz : b.size ≤ 1000) (hv : v = x.toNat)
    (h : ∀ h', h'.get? a = some (baObj (b.setIfInBounds j x)) → Heap.SameBut a s.heap h' → Q () { s with heap := h' }) :
    wpAny (model prog w) A (setItem (.ref a) (.int k t) (.int v u)) Q E s := by
  have hT := ba_type (s := s) hg
  unfold setItem
  refine wpAny_holding ?_
  refine wpAny_bind (wpAny_sequenceKey hT (by decide) ?_)
  refine wpAny_bind (wpAny_callSpecial?_slot (name := Str.ofString "__setitem__") hT ba_slot_set
    (wpAny_call_entry ba_slot_set hT ba_entry_set ?_ (ba_args_set _ _ _)))
  show wpAny _ _ (Builtin.Bytes.subscript? (.int k t) >>= _) _ _ s
  refine wpAny_bind ?_
  unfold Builtin.Bytes.subscript?
  refine wpAny_bind (wpAny_specialOf (typeIs_int _ _ _) int_lookup_index ?_)
  refine bm_if_false rfl ?_
  refine wpAny_bind (wpAny_of_eq (a := k) rfl ?_)
  refine bm_if_false (by unfold Builtin.Bytes.fitsIndex; simp; omega) ?_
  refine wpAny_pure ?_
  dsimp only
  refine wpAny_bind ?_
  unfold Builtin.Bytes.byteValue
  refine wpAny_bind (wpAny_of_eq (a := v) rfl ?_)
  have hx : x.toNat < 256 := x.toNat_lt
  refine bm_if_false (by simp; omega) ?_
  refine wpAny_pure ?_
  refine wpAny_bind ?_
  unfold Builtin.Bytes.payload Builtin.Bytes.payload?
  refine wpAny_bind (wpAny_bind (wpAny_load hg ?_))
  dsimp only
  refine wpAny_pure (wpAny_pure ?_)
  rw [PySem.StrLaws.seqIndex_nonneg (by omega) (by omega), show k.toNat = j by omega]
  dsimp only
  refine wpAny_bind (ba_write hg (by rw [Array.size_setIfInBounds, sizeLine_eq]; omega) fun h' hg' hs' => ?_)
  have e : v.toNat.toUInt8 = x := by rw [hv]; simp
  rw [e] at hg'
  exact wpAny_pure ⟨_, rfl, wpAny_pure (h h' hg' hs')⟩

theorem ba_bytes {a : Addr} {b : Array UInt8} {Q : Value → Shared → Prop} (hg : s.heap.get? a = some (baObj b)) (hz : b.size ≤ 1000)
    (h : ∀ t k, Q (.bytes b t) { s with toks := k }) : wpAny (model prog w) A (call (.type "bytes") [.ref a]) Q E s := by
  have hT := ba_type (s := s) hg
  refine callType_codes (Q₁ := fun v s' => ∃ t k, v = .bytes b t ∧ s' = { s with toks := k }) F.bm_called (F.bm_typeCall _) F.entry_object_init ?_ ?_
  · refine codeAny_of_tree ?_
    show wpAny _ _ (do checkBuiltinCall "bytes.__new__" ⟨[.type "bytes", .ref a], []⟩; again (.builtin "bytes.__new__" ⟨[.type "bytes", .ref a], []⟩)) _ _ s
    refine wpAny_bind (wpAny_of_eq (F.bm_newCall _) (wpAny_pure ⟨plainId_quiet F.bm_plain _, codeAny_builtin F.bm_entry ?_⟩))
    rw [Around.under_plainId F.bm_plain _]
    unfold Builtin.«bytes.__new__»
    refine wpAny_bind (wpAny_of_eq (a := true) rfl ?_)
    refine bm_if_false rfl ?_
    refine wpAny_bind (wpAny_of_eq F.bm_sub ?_)
    refine bm_if_false rfl ?_
    refine wpAny_bind (wpAny_of_eq (F.bm_bind _) ?_)
    refine wpAny_bind (wpAny_of_eq (a := ()) rfl ?_)
    refine wpAny_bind (wpAny_of_eq (a := ()) rfl ?_)
    refine bm_if_false rfl ?_
    refine wpAny_bind (wpAny_specialOf hT ba_lookup_bytes ?_)
    refine wpAny_bind (wpAny_bind ?_)
    show wpAny _ _ (load a >>= _) _ _ _
    refine wpAny_bind (wpAny_load hg ?_)
    refine wpAny_pure (wpAny_pure ?_)
    refine bm_if_false rfl ?_
    refine wpAny_bind (wpAny_specialOf hT ba_lookup_index ?_)
    refine bm_if_true rfl ?_
    first
      | show wpAny _ _ (Builtin.Bytes.buffer? "bytes.__new__" (.ref a) true >>= _) _ _ _
      | (refine wpAny_bind ?_; show wpAny _ _ (Builtin.Bytes.buffer? "bytes.__new__" (.ref a) true >>= _) _ _ _)
    refine wpAny_bind ?_
    unfold Builtin.Bytes.buffer?
    refine wpAny_bind (wpAny_specialOf hT ba_lookup_buffer ?_)
    dsimp only
    refine wpAny_bind ?_
    unfold Builtin.Bytes.slotIsOwn
    refine wpAny_bind (wpAny_specialOf hT ba_lookup_buffer ?_)
    dsimp only
    rw [ba_ends_buffer]
    refine bm_if_false rfl ?_
    rw [ba_drop_buffer]
    refine wpAny_isInstance hT ba_sub ?_
    refine bm_if_false rfl ?_
    refine wpAny_bind (wpAny_specialOf hT ba_lookup_buffer ?_)
    show wpAny _ _ (Builtin.Bytes.ownRelease (.ref a) >>= _) _ _ _
    refine wpAny_bind (ba_ownRelease hg ?_)
    refine bm_if_false rfl ?_
    refine wpAny_bind ?_
    unfold Builtin.Bytes.payload Builtin.Bytes.payload?
    refine wpAny_bind (wpAny_bind (wpAny_load hg ?_))
    refine wpAny_pure (wpAny_pure ?_)
    refine wpAny_pure ?_
    dsimp only
    refine wpAny_bind (wpAny_rule ?_)
    refine wpAny_bind (wpAny_mkBytes ?_ (by rw [sizeLine_eq]; omega))
    show wpAny _ _ (if (Value.type "bytes" == Value.type "bytes") = true then _ else _) _ _ _
    refine bm_if_true (by decide) ?_
    first
      | exact wpAny_pure ⟨_, _, rfl, rfl⟩
      | exact wpAny_bind (wpAny_pure (wpAny_pure ⟨_, _, rfl, rfl⟩))
  · rintro obj s₁ ⟨t, k, rfl, rfl⟩
    exact ⟨typeIs_bytes _ _ _, F.args_object_init_2 _ _, object_init_meets F.bm_called.init.lookup F.bm_called.made (by decide) prog w A.in1 _ _ ⟨typeIs_bytes _ _ _, rfl, h t k⟩⟩
end
end Mine
end
theorem Mine.reset_Bya2 : True := by
  w_top off
  trivial
/-! part Bsw -/
section
open PySem PySem.W PyProof.Rows PySem.Calls
set_option Elab.async false
set_option maxRecDepth 100000
set_option pp.maxSteps 20000
namespace Mine
theorem keeper_type {M : Model} {A : Around} {E : Value → Shared → Prop} {s : Shared} {T : String} :
    ∃ k, (k = Keeper.frame ∨ k = Keeper.machine) ∧ ∀ (s₁ : Shared) (Q' : Keeper → Shared → Prop), (∀ b o, s.heap.get? b = some o → s₁.heap.get? b = some o) → Q' k s₁ → wpAny M A (keeperOf (.type T)) Q' E s₁ :=
  ⟨.machine, .inr rfl, fun _ _ _ h => wpAny_pure h⟩
def fillA (b : Array UInt8) (j : Nat) : Array UInt8 := (List.replicate (b.size - j) 0 ++ (b.toList.take j).reverse).toArray
theorem fillA_zero (b : Array UInt8) : fillA b 0 = Array.replicate b.size 0 := by unfold fillA; simp
theorem fillA_all (b : Array UInt8) : fillA b b.size = b.reverse := by
  unfold fillA
  have : b.size = b.toList.length := by simp
  rw [this, List.take_length, Nat.sub_self]
  apply Array.ext'
  simp
theorem fillA_size (b : Array UInt8) (j : Nat) (h : j ≤ b.size) : (fillA b j).size = b.size := by unfold fillA; simp; omega
theorem fillA_succ (b : Array UInt8) (j : Nat) (h : j < b.size) : (fillA b j).setIfInBounds (b.size - 1 - j) b[j] = fillA b (j + 1) := by
  apply Array.ext'
  unfold fillA
  simp only [Array.toList_setIfInBounds]
  rw [show b.size - j = (b.size - (j + 1)) + 1 by omega, List.replicate_succ', List.append_assoc, show b.size - 1 - j = (List.replicate (b.size - (j + 1)) (0 : UInt8)).length + 0 by simp; omega]
  rw [List.set_append_right _ _ (by omega)]
  simp only [Nat.add_sub_cancel_left]
  rw [List.take_add_one]
  simp [h]
theorem bytes_item {prog : Program} {w : World} {A : Around} {E : Value → Shared → Prop} {s : Shared} {value slice : Expr} {b : Array UInt8} {j : Nat} {k : Int} {t u : Tok} {Q : Value → Shared → Prop} (hfit : b.size ≤ 1000) (hk : k = j) (h1 : j < b.size)
    (h : Q (.int (b[j].toNat : Int) s.toks) { s with toks := s.toks + 1 })
    (hs : subscripted slice false (.bytes b t) (.int k u) = operate [.bytes b t, .int k u] (getItem (.bytes b t) (.int k u)) := by with_unfolding_all rfl)
    (ht : ∀ r, letTemporaryGo value (.bytes b t) r = pure () := by intro _; with_unfolding_all rfl) :
    wpAny (model prog w) A (subscriptTail value slice (.bytes b t) (.int k u)) Q E s := by
  subst hk
  refine subscriptTail_builtin (typeIs_bytes _ _ _) FB.slot_bytes_getitem.lookup ?_ hs ht
  have hb : b = b.toList.toArray := by simp
  rw [hb]
  refine getItem_bytes (by simp; omega) (by omega) (by simp; omega) ?_
  have e : b.toList.getD ((j : Int)).toNat 0 = b[j] := by simp [h1]
  rw [e]
  exact h
theorem range_once {n : Nat} {c : Int} (h : c = n) (h0 : 0 < n) : Builtin.Range.rangeSize 0 (n : Int) c = ((1 : Nat) : Int) := by
  unfold Builtin.Range.rangeSize
  rw [if_pos (by omega), if_pos (by omega), Int.ediv_eq_zero_of_lt (by omega) (by omega)]
  rfl
theorem small_once {n : Nat} {c : Int} (h : c = n) (h0 : 0 < n) (h1 : n ≤ 1000) : Builtin.Range.small 0 (n : Int) c = true := by
  have hz := range_once h h0
  unfold Builtin.Range.small
  rw [hz]
  simp only [Builtin.Range.rangeFitsLong, Bool.and_eq_true, Bool.or_eq_true, decide_eq_true_eq, beq_iff_eq]
  rw [if_pos (by omega)]
  simp only [Bool.and_eq_true, decide_eq_true_eq]
  refine ⟨⟨⟨⟨?_, ?_⟩, ?_⟩, ?_⟩, .inr ?_⟩ <;> omega
theorem rangeSize_nat1 {n : Nat} : Builtin.Range.rangeSize 0 (n : Int) 1 = (n : Int) := by
  unfold Builtin.Range.rangeSize
  rw [if_pos (by omega)]
  split <;> omega
set_option maxHeartbeats 4000000 in
theorem swap_claim (w : World) (mean : ExcName → Option Value) (mg mb : Str → Option Value) (b : Array UInt8) (n : Int) (t tn : Tok) (news : List (Addr × Obj)) (hz : b.size ≤ 1000) (hn : n = b.size) (hn0 : 0 < n)
   (dp un : Nat) (gd : Option (List Code)) (cn : Str) (cs : Scope) (a : Addr) (ccd : Value) (cl : List (Str × Addr)) (outer : List Env) (A₀ : Around) (base h₀ : Heap) (L : Addr) (m : Str → Option Value) (s : Shared) (Q : Value → Shared → Prop)
   (B : Below A₀ base outer h₀) (F : Fr h₀ L s.heap m) (X : (hd.heap_39 w.params).In h₀) (N : News h₀ L s.heap news) (T : Top hd.view_39 (looseW hd.view_39 []) mean mg mb h₀) (hck : cs.kind = .function)
   (hdp : dp + 1 < recursionLimit) (hun : un + 8 < cLine) (hret : ∀ (t : Tok) (h' : Heap) (tk' : Nat), Fr h₀ L h' m → News h₀ L h' news → Q (.bytes b.reverse t) { s with heap := h', toks := tk' }) :
   wpF (model PySem.Challenge.rw_pe0034_01.prog w) (ktrTop dp un gd cn cs L a ccd cl outer) (call (.ref 35) [.bytes b t, .int n tn]) Q NoE s := by
  revert X; k_fill; intro X
  refine wpF_call ?_
  k_dflt (refine' codeF_def ?k1 ?k2 ?k3 ?k4 ?k5 ?kA ?kF ?kK ?k6 ?k7 ?k8 ?k9 ?kB ?_ ?c2 ?c3 ?c4 ?c5; (case kA => exact rfl); (case kF => exact rfl); (case kK => assumption); (case k1 => k_asm); (case k2 => k_asm); (case k3 => k_asm); (case k4 => k_asm); (case k5 => k_asm); (case k6 => k_is); (case k7 => k_is); (case k8 => ktr_room); (case k9 => exact BindsTo.of_eq rfl); (case c5 => decide); (case kB => exact locs rfl); (case c2 => exact rfl); (case c3 => exact rfl); (case c4 => exact rfl))
  intro g' L' h' FG' F' N' B' X' T'
  dsimp only
  generalize hTk : s.toks + _ = tk0
  have hb0 : 0 < b.size := by omega
  refine wpF_execs_cons (wpF_Assign_Name (wpF_Call1 (fv := .type "bytearray") keeper_type ?_ ?_) rfl)
  · intro Q' hq'
    k_steps
    exact hq'
  · k_steps
    refine .go ⟨fun _ _ e => e, ba_call (by omega) (by omega) fun h1 hg1 hk1 => ?_⟩
    have F1 := F'.keeps hk1
    have hnewA : g'.get? h'.objs.size = none := next_is_new F'
    have N1 : News g' L' h1 ((h'.objs.size, baObj (Array.replicate b.size 0)) :: news) := fun p hp => by
      rcases List.mem_cons.mp hp with rfl | hp
      · exact ⟨hg1, Nat.ne_of_gt F'.ns.lt, hnewA⟩
      · exact (N'.grown hk1) p hp
    have hAoff : ∀ p ∈ news, p.1 ≠ h'.objs.size := fun p hp => Nat.ne_of_lt (Heap.lt_size (N' p hp).1)
    clear hg1
    generalize hA : h'.objs.size = adr at *
    refine wpF_of ?_
    dsimp only
    clear F' N' hk1
    k_steps
    refine wpF_execs_cons ?_
    refine wpF_ForW (h₀ := g') rfl rfl ?_ (fun _ => rfl)
    refine wpF_of ?_
    k_steps
    rename_i hr hF hN hk9
    refine loopF_range (n := 1) (fun i m nw => m (Str.ofString "data") = some (.bytes b t) ∧ m (Str.ofString "width") = some (.int n tn) ∧ m (Str.ofString "swapped_data") = some (.ref adr) ∧
        nw = (adr, baObj (if i = 0 then Array.replicate b.size 0 else b.reverse)) :: news) rfl hr (small_once hn hb0 hz) (range_once hn hb0) hF hN ⟨rfl, rfl, rfl, rfl⟩ ?_ ?_
    · rintro i ti m1 nw1 I1 oI1 hh1 tk1 hi1 ⟨e1, e2, e3, rfl⟩ F1 N1 off1
      obtain rfl : i = 0 := by omega
      rw [← upd_self e3, ← upd_self e2, ← upd_self e1] at F1
      rw [show (0 : Int) + ((0 : Nat) : Int) * n = 0 by omega] at F1
      refine wpF_execs_cons ?_
      refine wpF_ForW (h₀ := g') rfl rfl ?_ (fun _ => rfl)
      refine wpF_of ?_
      dsimp only
      clear hF hN hr hk9
      k_steps
      rename_i hr hF hN hk9
      subst hn
      have hN0 := hN
      rw [show (if (0 : Nat) = 0 then Array.replicate b.size (0 : UInt8) else b.reverse) = fillA b 0 from by rw [fillA_zero]; rfl] at hN0
      refine loopF_range (n := b.size) (fun j m nw => m (Str.ofString "data") = some (.bytes b t) ∧ m (Str.ofString "width") = some (.int b.size tn) ∧ m (Str.ofString "swapped_data") = some (.ref adr) ∧ m (Str.ofString "i") = some (.int 0 ti) ∧
        nw = (I1, oI1) :: (adr, baObj (fillA b j)) :: news) rfl hr (small_one (by omega) (by omega) (by omega) (by omega)) rangeSize_nat1 hF hN0 ⟨rfl, rfl, rfl, rfl, rfl⟩ ?_ ?_
      · rintro j tj m2 nw2 I2 oI2 hh2 tk2 hj ⟨e1, e2, e3, e4, rfl⟩ F2 N2 off2
        rw [← upd_self e3, ← upd_self e2, ← upd_self e1, ← upd_self e4] at F2
        rw [show (0 : Int) + ((j : Nat) : Int) * 1 = (j : Int) by omega] at F2
        clear hF hN hr hk9 hN0
        refine wpF_of ?_
        dsimp only
        k_steps
        refine bytes_item (j := j) hz (by omega) hj ?_
        k_steps
        (rename Fr _ _ _ _ => F3); (rename News _ _ _ _ => N3)
        have gA := (N3 (adr, baObj (fillA b j)) (by simp)).1
        refine ba_setItem (j := b.size - 1 - j) gA (by omega) (by rw [fillA_size _ _ (by omega)]; omega) (by rw [fillA_size _ _ (by omega)]; exact hz) rfl ?_
        intro h3 hg3 hs3
        rw [fillA_succ _ _ hj] at hg3
        have nL : adr ≠ L' := (N3 (adr, baObj (fillA b j)) (by simp)).2.1
        have F4 := F3.change hs3 nL hnewA
        have nA : ∀ p ∈ news, p.1 ≠ adr := hAoff
        have n1 : I1 ≠ adr := fun e => off1 (adr, _) (.head _) e.symm
        have n2 : I2 ≠ adr := fun e => off2 (adr, baObj (fillA b j)) (by simp) e.symm
        have N4 : News g' L' h3 ((I2, oI2) :: (I1, oI1) :: (adr, baObj (fillA b (j + 1))) :: news) := fun p hp => by
          simp only [List.mem_cons] at hp
          rcases hp with rfl | rfl | rfl | hp
          · have q := N3 (I2, oI2) (by simp); exact ⟨hs3.extBut _ _ n2 q.1, q.2⟩
          · have q := N3 (I1, oI1) (by simp); exact ⟨hs3.extBut _ _ n1 q.1, q.2⟩
          · exact ⟨hg3, nL, hnewA⟩
          · have q := N3 p (by simp [hp]); exact ⟨hs3.extBut _ _ (nA p hp) q.1, q.2⟩
        clear F3 N3
        k_steps
        refine ⟨h3, _, _, _, rfl, F4, N4, fun p hp => ?_, rfl, rfl, rfl, rfl, rfl⟩
        simp only [List.mem_cons] at hp
        rcases hp with rfl | rfl | hp
        · exact off2 _ (by simp)
        · exact fun e => n2 e.symm
        · exact off2 _ (by simp [hp])
      · rintro h4 tk4 m4 news4 F4 N4 ⟨e1, e2, e3, e4, rfl⟩
        rw [fillA_all] at N4
        refine wpF_execs_nil ?_
        refine ⟨h4, tk4, m4, (adr, baObj b.reverse) :: news, rfl, F4, N4, fun p hp => ?_, e1, e2, e3, rfl⟩
        rcases List.mem_cons.mp hp with rfl | hp
        · exact off1 (adr, baObj (if (0 : Nat) = 0 then Array.replicate b.size 0 else b.reverse)) (.head _)
        · exact off1 _ (.tail _ hp)
    · rintro h4 tk4 m4 news4 F4 N4 ⟨e1, e2, e3, rfl⟩
      rw [← upd_self e3] at F4
      clear hF hN hr hk9
      refine wpF_of ?_
      dsimp only
      k_steps
      (rename Fr _ _ _ _ => F3); (rename News _ _ _ _ => N3)
      have gA := (N3 (adr, baObj b.reverse) (by simp)).1
      refine ba_bytes gA (by simpa using hz) ?_
      intro t9 k9
      k_steps
      exact hret _ _ _ (by k_asm) (by first | k_asm | (refine' cb_drop ?cbN ?cbS; (case cbN => assumption); (case cbS => kcj_all)))
end Mine
end
theorem Mine.reset_Bsw : True := by
  w_top off
  trivial
/-! part Cmt -/
section
open PySem PySem.W PyProof.Rows
set_option Elab.async false
set_option maxRecDepth 100000
set_option pp.maxSteps 20000
namespace Mine
def commentS (x : Str) : Str := if (Txt.rstrip x).length = 0 then Str.ofString "#" else Str.ofString "# " ++ Txt.rstrip x
set_option maxHeartbeats 4000000 in
theorem comment_claim (w : World) (mean : ExcName → Option Value) (mg mb : Str → Option Value) (x : Str) (t : Tok) (news : List (Addr × Obj)) :
   CbClaim PySem.Challenge.rw_pe0034_01.prog w (hd.heap_39 w.params) hd.view_39 (looseW hd.view_39 []) mean mg mb 21 news [] (x.length ≤ 1000) [.str x t] (fun t => .str (commentS x) t) := by
  k_fill
  dsimp only [CbClaim, CbLists, CbRet]; intros; rename_i hret
  refine wpAny_call ?_
  k_dflt cell_enter
  k_steps
  · refine cb_retS hret ?_ (by k_asm) (by k_asm)
    rename (↑(Txt.rstrip x).length ≠ (0:Int)) => h0
    unfold commentS; rw [if_neg (by omega)]
  · refine cb_retS hret ?_ (by k_asm) (by k_asm)
    rename (↑(Txt.rstrip x).length = (0:Int)) => h0
    unfold commentS; rw [if_pos (by omega)]
end Mine
end
theorem Mine.reset_Cmt : True := by
  w_top off
  trivial
/-! part Strp -/
section
open PySem PySem.W PyProof.Rows
set_option Elab.async false
set_option maxRecDepth 100000
set_option pp.maxSteps 20000
namespace Mine
open PySem.Builtin PySem.Builtin.Str PySem.StrLaws

theorem gives_find4 (x y : Str) (i j : Int) (t u v z : Tok) : Gives («str.find» ⟨[.str x t, .str y u, .int i v, .int j z], []⟩) (.int (match occurrences x y (fromIndex x.length i) (min (fromIndex x.length j) x.length) 1 with | k :: _ => (k : Int) | [] => -1)) := by
  show Gives (match occurrences x y (fromIndex x.length i) (min (fromIndex x.length j) x.length) 1 with | k :: _ => retInt k | [] => (do rule "str.find.not-found"; retInt (-1))) _
  cases occurrences x y (fromIndex x.length i) (min (fromIndex x.length j) x.length) 1 with
  | nil => exact .rule (.of_eq rfl)
  | cons k _ => exact .of_eq rfl
theorem gives_rfind4 (x y : Str) (i j : Int) (t u v z : Tok) : Gives («str.rfind» ⟨[.str x t, .str y u, .int i v, .int j z], []⟩) (.int (match lastOccurrence x y (fromIndex x.length i) (min (fromIndex x.length j) x.length) with | some i => (i : Int) | none => -1)) := by
  show Gives (match lastOccurrence x y (fromIndex x.length i) (min (fromIndex x.length j) x.length) with | some k => retInt k | none => (do rule "str.rfind.not-found"; retInt (-1))) _
  cases lastOccurrence x y (fromIndex x.length i) (min (fromIndex x.length j) x.length) with
  | none => exact .rule (.of_eq rfl)
  | some k => exact .of_eq rfl

theorem at_one {x : Str} {c hi i : Nat} (hh : hi ≤ x.length) : At x ⟨#[c]⟩ hi i ↔ i < hi ∧ x.cps.toList[i]? = some c := by
  have h1 : (⟨#[c]⟩ : Str).length = 1 := rfl
  have key := subAt_one x c i
  constructor
  · intro h
    have h2 : i + 1 ≤ hi := h1 ▸ h.1
    exact ⟨by omega, key.mp ⟨by rw [h1]; omega, h.2⟩⟩
  · rintro ⟨h2, h3⟩
    exact ⟨by rw [h1]; omega, (key.mpr h3).2⟩

theorem occ_FirstAt (x : Str) (c hi : Nat) (hh : hi ≤ x.length) :
    FirstAt x.cps.toList c hi (match occurrences x ⟨#[c]⟩ 0 hi 1 with | k :: _ => (k : Int) | [] => -1) := by
  rw [occ_eq]
  rcases occ_first x ⟨#[c]⟩ hi 1 (Nat.le_refl 1) (List.range' 0 (hi + 1 - 0)) 0 (fun i hi => Nat.zero_le _) with ⟨h0, hn⟩ | ⟨pre, a, post, e, h0, ha, hn⟩
  · refine .inl ⟨by rw [h0], fun k hk he => ?_⟩
    exact hn k (by rw [List.mem_range'_1]; omega) ((at_one hh).mpr ⟨hk, he⟩)
  · have hs := range'_split_from e
    have ha' := (at_one hh).mp ha
    refine .inr ⟨a, ?_, ha'.1, ha'.2, fun i hi' he => hn i (hs.2 i (Nat.zero_le _) hi') ((at_one hh).mpr ⟨by omega, he⟩)⟩
    generalize (forIn (List.range' 0 (hi + 1 - 0)) ((#[] : Array Nat), 0) (occBody x ⟨#[c]⟩ hi 1)).run.fst = arr at h0
    have h1 : arr.toList[0]? = some a := by simpa using h0
    cases hL : arr.toList with
    | nil => rw [hL] at h1; cases h1
    | cons b t => rw [hL] at h1; simp at h1; rw [h1]

theorem last_LastAt (x : Str) (c hi : Nat) (hh : hi ≤ x.length) :
    LastAt x.cps.toList c hi (match lastOccurrence x ⟨#[c]⟩ 0 hi with | some i => (i : Int) | none => -1) := by
  rw [last_eq]
  have key := last_run x ⟨#[c]⟩ hi (List.range' 0 (hi + 1 - 0)) [] none (fun _ h => nomatch h) (fun _ h => nomatch h) (by simpa using List.pairwise_lt_range' (s := 0) (n := hi + 1 - 0))
  have mem : ∀ i, i < hi → i ∈ [] ++ List.range' 0 (hi + 1 - 0) := fun i hi' => by simp [List.mem_range'] <;> omega
  cases hr : (forIn (List.range' 0 (hi + 1 - 0)) none (lastBody x ⟨#[c]⟩ hi)).run with
  | none => rw [hr] at key; exact .inl ⟨rfl, fun i hi' he => key i (mem i hi') ((at_one hh).mpr ⟨hi', he⟩)⟩
  | some a =>
    rw [hr] at key
    have ha := (at_one hh).mp key.1
    exact .inr ⟨a, rfl, ha.1, ha.2, fun k hk hk2 he => key.2 k (mem k hk2) hk ((at_one hh).mpr ⟨hk2, he⟩)⟩

theorem fromIndex_nat {n : Nat} {j : Int} (h0 : 0 ≤ j) : fromIndex n j = j.toNat := by
  unfold fromIndex
  rw [if_neg (by omega)]; congr 1; omega

section
variable {prog : Program} {w : World} {A : Around} {E : Value → Shared → Prop} {s : Shared} {x y : Str} {t u v z : Tok} {j : Int} {Q : Value → Shared → Prop} {c : Nat}
theorem find1_call (hy : y = ⟨#[c]⟩) (hq : ∀ r tk, FirstAt x.cps.toList c x.length r → Q (.int r tk) { s with toks := s.toks + 1 }) :
    wpAny (model prog w) A (call (.builtin "str.find") [.str x t, .str y u]) Q E s := by
  subst hy
  exact SC.find (hq _ _ (occ_FirstAt x c _ (Nat.le_refl _)))
theorem find4_call (hy : y = ⟨#[c]⟩) (h0 : 0 ≤ j) (hj : j ≤ x.length) (hq : ∀ r tk, FirstAt x.cps.toList c j.toNat r → Q (.int r tk) { s with toks := s.toks + 1 }) :
    wpAny (model prog w) A (call (.builtin "str.find") [.str x t, .str y u, .int 0 v, .int j z]) Q E s := by
  subst hy
  refine call_gives F.slot_str_find (typeIs_str _ _ _) F.entry_str_find (F.args_str_find_4 _ _ _ _) (gives_find4 x _ 0 j t u v z) (hq _ _ ?_)
  rw [fromIndex_nat (Int.le_refl 0), fromIndex_nat h0, Nat.min_eq_left (by omega)]
  exact occ_FirstAt x c _ (by omega)
theorem rfind4_call (hy : y = ⟨#[c]⟩) (h0 : 0 ≤ j) (hj : j ≤ x.length) (hq : ∀ r tk, LastAt x.cps.toList c j.toNat r → Q (.int r tk) { s with toks := s.toks + 1 }) :
    wpAny (model prog w) A (call (.builtin "str.rfind") [.str x t, .str y u, .int 0 v, .int j z]) Q E s := by
  subst hy
  refine call_gives F.slot_str_rfind (typeIs_str _ _ _) F.entry_str_rfind (F.args_str_rfind_4 _ _ _ _) (gives_rfind4 x _ 0 j t u v z) (hq _ _ ?_)
  rw [fromIndex_nat (Int.le_refl 0), fromIndex_nat h0, Nat.min_eq_left (by omega)]
  exact last_LastAt x c _ (by omega)
end
theorem FirstAt.bound {l : List Nat} {c hi : Nat} {v : Int} (h : FirstAt l c hi v) : -1 ≤ v ∧ v < hi ∨ v = -1 := by
  rcases h with ⟨h, _⟩ | ⟨k, h, h2, _⟩
  · exact .inr h
  · exact .inl ⟨by omega, by omega⟩
theorem LastAt.bound {l : List Nat} {c hi : Nat} {v : Int} (h : LastAt l c hi v) : -1 ≤ v ∧ v < hi ∨ v = -1 := by
  rcases h with ⟨h, _⟩ | ⟨k, h, h2, _⟩
  · exact .inr h
  · exact .inl ⟨by omega, by omega⟩

def stripS (x : Str) : Str := txt (stripL (codes x))
set_option maxHeartbeats 4000000 in
theorem strip_claim (w : World) (mean : ExcName → Option Value) (mg mb : Str → Option Value) (x : Str) (t : Tok) (news : List (Addr × Obj)) :
   CbClaim PySem.Challenge.rw_pe0034_01.prog w (hd.heap_39 w.params) hd.view_39 (looseW hd.view_39 []) mean mg mb 28 news [] (x.length ≤ 1000) [.str x t] (fun t => .str (stripS x) t) := by
  k_fill
  dsimp only [CbClaim, CbLists, CbRet]; intros; rename_i hret
  refine wpAny_call ?_
  k_dflt cell_enter
  k_steps
  have f1 : FirstAt x.cps.toList 10 x.length (Txt.find x (Str.ofString "\n")) := by
    rw [show Str.ofString "\n" = ⟨#[10]⟩ from by decide +kernel]
    exact occ_FirstAt x 10 _ (Nat.le_refl _)
  have b1 := f1.bound
  refine find4_call (c := 58) (by decide +kernel) (by omega) (by omega) ?_
  intro r2 tk2 f2
  have b2 := f2.bound
  k_steps
  all_goals (refine rfind4_call (c := 46) (by decide +kernel) (by omega) (by omega) ?_; intro r3 tk3 f3; have b3 := f3.bound)
  all_goals k_steps
  all_goals (refine cb_retS hret ?_ (by k_asm) (by first | k_asm | (refine' cb_drop ?cbN ?cbS; (case cbN => assumption); (case cbS => kcj_all))))
  · exact strip_value f1 (by assumption) f2 (.inl ⟨by omega, rfl⟩) f3 (.inl ⟨by omega, rfl⟩)
  · exact strip_value f1 (by assumption) f2 (.inl ⟨by omega, rfl⟩) f3 (.inr ⟨by omega, rfl⟩)
  · exact strip_value f1 (by assumption) f2 (.inr ⟨by omega, rfl⟩) f3 (.inl ⟨by omega, rfl⟩)
  · exact strip_value f1 (by assumption) f2 (.inr ⟨by omega, rfl⟩) f3 (.inr ⟨by omega, rfl⟩)
end Mine
end
theorem Mine.reset_Strp : True := by
  w_top off
  trivial
/-! part Box -/
section
open PySem PySem.W PyProof.Rows
set_option Elab.async false
set_option maxRecDepth 100000
set_option pp.maxSteps 6000
namespace Mine
theorem stop_comp {M : Model} {A : Around} {E : Value → Shared → Prop} {s : Shared} {env : Env} {e : PySem.Expr} {gs : List Comprehension} {sc : Scope} {pos : Pos} {Q : Value → Shared → Prop} (h : Stop (wpAny M A (eval (.ListComp e gs sc pos) env) Q E s)) : wpAny M A (eval (.ListComp e gs sc pos) env) Q E s := h.out
theorem stop_exec {M : Model} {A : Around} {E : Value → Shared → Prop} {s : Shared} {env : Env} {y : List PySem.Expr} {e : PySem.Expr} {gs : List Comprehension} {sc : Scope} {pos pos' : Pos} {Q : Flow → Shared → Prop} (h : Stop (wpAny M A (exec (.Assign y (.ListComp e gs sc pos) pos') env) Q E s)) : wpAny M A (exec (.Assign y (.ListComp e gs sc pos) pos') env) Q E s := h.out
theorem stop_cmp {M : Model} {A : Around} {E : Value → Shared → Prop} {s : Shared} {o : CmpOp} {a b : Addr} {Q : Value → Shared → Prop} (h : Stop (wpAny M A (compareOp o (.ref a) (.ref b)) Q E s)) : wpAny M A (compareOp o (.ref a) (.ref b)) Q E s := h.out
theorem stop_if {M : Model} {A : Around} {E : Value → Shared → Prop} {s : Shared} {env : Env} {t : PySem.Expr} {x y : List Stmt} {p : Pos} {Q : Flow → Shared → Prop} (h : Stop (wpAny M A (exec (.If t x y p) env) Q E s)) : wpAny M A (exec (.If t x y p) env) Q E s := h.out
local macro_rules | `(tactic| walk_at "exec If") => `(tactic| refine stop_if ?_)
local macro_rules | `(tactic| walk_at "subscriptTail Name Name ref int") => `(tactic| refine stop_sub ?_)
local macro_rules | `(tactic| walk_at "subscriptTail Name BinOp ref int") => `(tactic| refine stop_sub ?_)
local macro_rules | `(tactic| walk_at "subscriptTail Name UnaryOp ref int") => `(tactic| refine stop_sub ?_)
local macro_rules | `(tactic| walk_at "binaryOp Mult str int") => `(tactic| refine stop_bin ?_)
local macro_rules | `(tactic| walk_at "binaryOp Mult ref int") => `(tactic| refine stop_bin ?_)
local macro_rules | `(tactic| walk_at "binaryOp Add str str") => `(tactic| refine stop_bin ?_)
local macro_rules | `(tactic| walk_at "compareOp Eq ref ref") => `(tactic| refine stop_cmp ?_)
local macro_rules | `(tactic| walk_at "eval ListComp") => `(tactic| refine stop_comp ?_)
local macro_rules | `(tactic| walk_at "exec Assign cons ListComp") => `(tactic| refine stop_exec ?_)
theorem rep_one (v : Value) (n : Nat) : List.foldl (fun x1 x2 => x1 ++ x2) #[] (List.replicate n #[v]) = (List.replicate n v).toArray := by
  have key : ∀ (n : Nat) (a : Array Value), List.foldl (fun x1 x2 => x1 ++ x2) a (List.replicate n #[v]) = a ++ (List.replicate n v).toArray := by
    intro n
    induction n with
    | zero => intro a; simp
    | succ n ih => intro a; rw [List.replicate_succ, List.foldl_cons, ih]; apply Array.ext'; simp [List.replicate_succ]
  rw [key]; simp
theorem fr_dup {h₀ h : Heap} {L : Addr} {x : Str} {a b : Option Value} {r : Str → Option Value} (F : Fr h₀ L h (fun y => if y = x then a else if y = x then b else r y)) : Fr h₀ L h (fun y => if y = x then a else r y) := by
  have e : (fun y => if y = x then a else if y = x then b else r y) = (fun y => if y = x then a else r y) := by
    funext y
    by_cases e : y = x <;> simp [e]
  rw [← e]; exact F
theorem _root_.PySem.W.News.tail2 {g h : Heap} {L : Addr} {a b : Addr × Obj} {ns : List (Addr × Obj)} (N : News g L h (a :: b :: ns)) : News g L h (a :: ns) := fun p hp => N p (by
  rcases List.mem_cons.mp hp with rfl | hp
  · exact .head _
  · exact .tail _ (.tail _ hp))
theorem isL {g h : Heap} {L l : Addr} {ns : List (Addr × Obj)} {vs : Array Value} {n : Nat} (N : News g L h ns) (hm : (l, listOf vs n) ∈ ns) : h.IsList l vs := ⟨_, (N _ hm).1, rfl, _, rfl⟩
theorem rev_txt (l : List Nat) (u : Tok) : Txt.sliceBy (txt l) none none (-1, u) = txt l.reverse := by
  have h := step_rev_list (txt l) u
  rw [← txt_codes (Txt.sliceBy (txt l) none none (-1, u))]
  congr 1
  refine h.trans ?_
  apply List.ext_getElem?
  intro i
  rw [List.getElem?_map]
  by_cases hi : i < l.length
  · rw [List.getElem?_range (by rw [txt_length]; exact hi), List.getElem?_reverse hi]
    show some ((l.toArray).getD ((txt l).length - 1 - i) 0) = _
    rw [txt_length]
    simp only [Array.getD, List.size_toArray]
    rw [dif_pos (by omega), List.getElem?_eq_getElem (by omega)]
    rfl
  · rw [List.getElem?_eq_none (by rw [List.length_range, txt_length]; omega), List.getElem?_eq_none (by rw [List.length_reverse]; omega)]
    rfl
set_option maxHeartbeats 4000000 in
theorem box_claim (w : World) (mean : ExcName → Option Value) (mg mb : Str → Option Value) (l : List Nat) (va vb : Nat) (sd : Int) (t ta tb ts : Tok) (la : Addr) (nl : Nat) (news : List (Addr × Obj)) (hl : l.length ≤ 100) (ha : va ≤ 20) (hb : vb ≤ 20)
   (hs : sd = 0 ∨ sd = 1)
   (dp un : Nat) (gd : Option (List Code)) (cn : Str) (cs : Scope) (a : Addr) (ccd : Value) (cl : List (Str × Addr)) (outer : List Env) (A₀ : Around) (base h₀ : Heap) (L : Addr) (m : Str → Option Value) (s : Shared) (Q E : Value → Shared → Prop)
   (B : Below A₀ base outer h₀) (F : Fr h₀ L s.heap m) (X : (hd.heap_39 w.params).In h₀) (N : News h₀ L s.heap ((la, listOf #[.int va ta, .int vb tb] nl) :: news)) (T : Top hd.view_39 (looseW hd.view_39 []) mean mg mb h₀) (hck : cs.kind = .function)
   (hdp : dp + 1 < recursionLimit) (hun : un + 200 < cLine)
   (cr : List Nat) (xa xb : Nat) (hcr : cr = if sd = 1 then l.reverse else l) (hxa : xa = if sd = 1 then vb else va) (hxb : xb = if sd = 1 then va else vb)
   (hret : ∀ r h' k t1 t2, Fr h₀ L h' m → News h₀ L h' ((r, { cls := Value.type "tuple", data := Data.seq #[Value.str (txt (if l = [] then rowL (va + vb) else boxT cr xa xb)) t1, Value.str (txt (if l = [] then rowL (va + vb) else boxN cr xa xb)) t2] }) :: (la, listOf #[.int va ta, .int vb tb] nl) :: news) → Q (.ref r) { s with heap := h', toks := k }) :
   wpAny (model PySem.Challenge.rw_pe0034_01.prog w) (ktrTop dp un gd cn cs L a ccd cl outer) (call (.ref 40) [.str (txt l) t, .ref la, .int sd ts]) Q E s := by
  revert X; k_fill; intro X
  refine wpAny_call ?_
  k_dflt (refine' code_defC ?k1 ?k2 ?k3 ?k4 ?k5 ?kA ?kF ?kK ?k6 ?k7 ?k8 ?k9 ?kB ?kD ?_ ?c2 ?c3 ?c4; (case kA => exact rfl); (case kF => exact rfl); (case kK => assumption); (case k1 => k_asm); (case k2 => k_asm); (case k3 => k_asm); (case k4 => k_asm); (case k5 => k_asm); (case k6 => k_is); (case k7 => k_is); (case k8 => ktr_room); (case k9 => exact BindsTo.of_eq rfl); (case kB => exact rfl); (case kD => decide +kernel); (case c2 => exact rfl); (case c3 => exact rfl); (case c4 => exact rfl); k_whole)
  intro g' L' h' tk' cells' FG' F' N' Y' B' X' T' l1
  obtain ⟨oc, ec, dc⟩ := CellsAre.one Y'
  subst ec
  clear Y'
  replace dc : oc.data = .cell none := dc
  simp only [List.cons_append, List.nil_append] at N'
  have lC : ∀ p ∈ news, p.1 < L' + 1 := fun p hp => Nat.lt_succ_of_lt (l1 p (.tail _ hp))
  have lA : la < L' := l1 (la, _) (.head _)
  have kM := kstMark
  clear l1
  obtain ⟨u0, F1⟩ : ∃ u : Str → Option Value, Fr g' L' h' (fun y => if y = Str.ofString "kept" then some (.str (txt l) t) else if y = Str.ofString "laid" then some (.ref la) else if y = Str.ofString "side" then some (.int sd ts) else u y) :=
    ⟨_, frUpd (frUpd (frUpd F' rfl) rfl) rfl⟩
  clear F'
  dsimp only
  try k_lift B'
  try k_fold
  have hlt := txt_length l
  have hj : ∃ (j : Nat) (tx : Tok), sd = j ∧ j ≤ 1000 ∧ [Value.int va ta, .int vb tb][j]? = some (.int xa tx) := by
    rcases hs with rfl | rfl
    · exact ⟨0, ta, rfl, by omega, by rw [hxa]; rfl⟩
    · exact ⟨1, tb, rfl, by omega, by rw [hxa]; rfl⟩
  have hj' : ∃ (j : Nat) (tx : Tok), 1 - sd = j ∧ j ≤ 1000 ∧ [Value.int va ta, .int vb tb][j]? = some (.int xb tx) := by
    rcases hs with rfl | rfl
    · exact ⟨1, tb, rfl, by omega, by rw [hxb]; rfl⟩
    · exact ⟨0, ta, rfl, by omega, by rw [hxb]; rfl⟩
  obtain ⟨j, tj, ej, zj, lj⟩ := hj
  obtain ⟨j', tj', ej', zj', lj'⟩ := hj'
  have hcl : cr.length ≤ 100 := by rw [hcr]; split <;> simp [hl]
  have hxa' : xa ≤ 20 := by rw [hxa]; split <;> assumption
  have hxb' : xb ≤ 20 := by rw [hxb]; split <;> assumption
  k_steps
  refine .go (wpAny_If ?_)
  k_steps
  · (rename Fr _ _ _ _ => F2); (rename News _ _ _ _ => N2)
    dsimp only
    change Stop (wpAny _ _ (binaryOp .Mult (.ref _) (.int ((va : Int) + (vb : Int)) _)) _ _ _)
    refine .go (mul_list F2 N2 (N2 _ (.head _)).1 (by omega) (by omega) (by simp; omega) fun h3 F3 N3 => ?_)
    clear F2
    replace N3 := News.tail2 N3
    have ez : (if #[Value.str (Str.ofString "#") (tk + 1)].isEmpty = true then 0 else ((va : Int) + (vb : Int)).toNat) = va + vb := by
      rw [if_neg (by simp)]; omega
    rw [ez, rep_one] at N3
    generalize Heap.objs _ = ob3 at N3 ⊢
    k_steps
    refine join_call (sp := [32]) (cs := List.replicate (va + vb) [35]) (B := 1) (isL (n := 0) N3 (.head _)) (Texts.replicate [35] _ _) (by decide +kernel) (fun c hc => by rw [List.eq_of_mem_replicate hc]; decide) (by rw [List.length_replicate]; show _ * 2 ≤ _; omega) fun t4 k4 => ?_
    k_steps
    (rename Fr h₀ _ _ _ => F22); (rename News h₀ _ _ _ => N22)
    have hne : l = [] := by
      rename _ = true => hf
      have := congrArg Str.length (eq_of_beq hf)
      rw [txt_length] at this
      exact List.length_eq_zero_iff.mp this
    refine hret _ _ _ t4 t4 F22 fun p hp => N22 p ?_
    rw [if_pos hne, if_pos hne] at hp
    simp only [List.mem_cons] at hp ⊢
    rcases hp with hp | hp | hp
    · exact .inl hp
    · exact .inr (.inr (.inr (.inl hp)))
    · exact .inr (.inr (.inr (.inr hp)))
  · (rename Fr _ _ _ _ => F2); (rename News _ _ _ _ => N2)
    refine storeX_C F2 N2 rfl (UpdF.head ?_) dc ?_ rfl rfl
    · intro p hp
      rcases List.mem_cons.mp hp with rfl | hp
      · exact Nat.ne_of_lt (Nat.lt_succ_of_lt lA)
      · exact Nat.ne_of_lt (lC p hp)
    · intro h3 oc3 F3 N3 dc3
      clear F2 N2 dc
      k_steps
      (rename Fr _ _ _ _ => F4); (rename News _ _ _ _ => N4)
      refine .go (wpAny_mono (Q := fun fl s' => Stop (fl = .next ∧ ∃ h4 oc4 k4 t4, s' = { s with heap := h4, toks := k4 } ∧ oc4.data = .cell (some (.str (txt cr) t4)) ∧ Fr g' L' h4 (fun y => if y = Str.ofString "kept" then some (.str (txt l) t) else if y = Str.ofString "laid" then some (.ref la) else if y = Str.ofString "side" then some (.int sd ts) else u0 y) ∧ News g' L' h4 ((L' + 1, oc4) :: (la, listOf #[.int va ta, .int vb tb] nl) :: news))) (E := fun _ _ => False) ?_ ?_ (fun _ _ h => h.elim))
      · clear ej zj lj ej' zj' lj'
        refine wpAny_If ?_
        rcases hs with rfl | rfl
        · k_steps
          (rename Fr _ _ _ _ => F5); (rename News _ _ _ _ => N5)
          have e5 : cr = l := by rw [hcr, if_neg (by decide)]
          rw [← e5] at dc3
          exact .go ⟨rfl, _, _, _, _, rfl, dc3, F5, N5⟩
        · k_steps
          (rename Fr _ _ _ _ => F5); (rename News _ _ _ _ => N5)
          refine storeX_C F5 N5 rfl (UpdF.head ?_) dc3 ?_ rfl rfl
          · intro p hp
            rcases List.mem_cons.mp hp with rfl | hp
            · exact Nat.ne_of_lt (Nat.lt_succ_of_lt lA)
            · exact Nat.ne_of_lt (lC p hp)
          · intro h6 oc6 F6 N6 dc6
            clear F5 N5 dc3
            k_steps
            (rename Fr _ _ _ _ => F7); (rename News _ _ _ _ => N7)
            have e5 : cr = l.reverse := by rw [hcr, if_pos rfl]
            rw [rev_txt, ← e5] at dc6
            exact .go ⟨rfl, _, _, _, _, rfl, dc6, F7, N7⟩
      · intro fl s4 h
        obtain ⟨⟨rfl, h4, oc4, k4, t4, rfl, dc4, F4', N4'⟩⟩ := h
        clear F4 N4 dc3
        dsimp only
        k_steps
        dsimp only
        (rename Fr _ _ _ _ => Fa); (rename News _ _ _ _ => Na)
        refine .go (list_item (vs := [.int va ta, .int vb tb]) (isL (n := nl) Na (by simp)) ej zj lj ?_ rfl)
        k_steps
        refine .go (str_mul (n := xa) (l := [35, 32]) (by decide +kernel) rfl (by decide) (by omega) fun t5 k5 => ?_)
        k_steps
        dsimp only
        (rename Fr _ _ _ _ => Fb); (rename News _ _ _ _ => Nb)
        refine .go (list_item (vs := [.int va ta, .int vb tb]) (isL (n := nl) Nb (by simp)) ej' zj' lj' ?_ rfl)
        k_steps
        refine .go (str_mul (n := xb) (l := [32, 35]) (by decide +kernel) rfl (by decide) (by omega) fun t6 k6 => ?_)
        k_steps
        dsimp only
        (rename Fr _ _ _ _ => F5); (rename News _ _ _ _ => N5)
        have hct := txt_length cr
        refine .go (filter_eval F5 rfl (by decide) rfl (by decide) rfl (by decide) rfl (fun i => decide (cr.getD i 0 ∈ [58, 10])) ?_ (fun _ => rfl))
        k_steps
        rename_i hr6 F6 N6 hk6
        rw [txt_length] at hr6
        refine .go ⟨_, _, _, _, cr.length, _, rfl, F6, N6, hr6, by omega, ?_, ?_⟩
        · intro i ti C oC m₂ h tk Q' E' hi hoC hC hm F N hQ
          exact test_cell (l := cr) (fun c => decide (c ∈ [58, 10])) rfl rfl rfl rfl (N (L' + 1, oc4) (by simp)).1 dc4 hoC hC hm (getD_some hi) (by omega) (fun s' u v Q' hq => sign_in (by decide +kernel) hq) hQ (by decide) (by decide) (fun _ => rfl) (fun _ => rfl) rfl
        intro D7 h7 tk7 ys7 hy7 F7 N7 off7
        clear F6 N6 hr6 hk6
        k_steps
        (rename Fr _ _ _ _ => F8); (rename News _ _ _ _ => N8)
        rename_i k8 l8 h8 _
        refine add_lists_ints (ms := [(cr.length : Int)]) F8 N8 (l := D7) ⟨_, (N8 (D7, listOf ys7.toArray ys7.length) (by simp)).1, rfl, _, rfl⟩ ⟨_, (N8 _ (.head _)).1, rfl, _, rfl⟩ hy7 (by rw [← hct]; exact .cons _ _ .nil) ?_ (by have := filt_length (fun i => decide (cr.getD i 0 ∈ [58, 10])) cr.length; simp only [List.length_cons, List.length_nil]; rw [sizeLine_eq]; omega)
        intro h9 F9 N9 hy9
        obtain ⟨r9, hr9⟩ := stops_head cr
        rw [hr9] at hy9
        obtain ⟨t9, vs9, ev9, _⟩ := IntsAre.cons_inv hy9
        rw [ev9] at N9
        dsimp only at N9 ⊢
        generalize h8.objs.size = S9 at N9 ⊢
        have N10 : News g' L' h9 ((S9, listOf (Value.int ((headL cr).length : Int) t9 :: vs9).toArray 0) :: (L' + 1, oc4) :: (la, listOf #[.int va ta, .int vb tb] nl) :: news) := fun p hp => N9 p (by
          simp only [List.mem_cons] at hp ⊢
          rcases hp with hp | hp | hp | hp
          · exact .inl hp
          · exact .inr (.inr (.inr (.inl hp)))
          · exact .inr (.inr (.inr (.inr (.inl hp))))
          · exact .inr (.inr (.inr (.inr (.inr hp)))))
        clear N9 F8 N8 hy9 ev9 hr9
        have hst : (headL cr).length ≤ cr.length := headL_le cr
        k_steps
        (rename Fr _ _ _ _ => F11); (rename News _ _ _ _ => N11)
        refine .go (filter_assign F11 rfl rfl rfl (by decide) rfl (by decide) rfl (by decide) rfl rfl rfl (fun i => cr.getD i 0 == 46) ?_ (fun _ => rfl))
        k_steps
        rename_i hr12 F12 N12 hk12
        refine .go ⟨_, _, _, _, (headL cr).length, _, rfl, F12, N12, hr12, by omega, ?_, ?_⟩
        · intro i ti C oC m₂ h tk Q' E' hi hoC hC hm F N hQ
          exact test_cell (l := cr) (fun c => c == 46) rfl rfl rfl rfl (N (L' + 1, oc4) (by simp)).1 dc4 hoC hC hm (getD_some (by omega)) (by omega) (fun s' u v Q' hq => sign_eq (by decide +kernel) hq) hQ (by decide) (by decide) (fun _ => rfl) (fun _ => rfl) rfl
        intro D13 h13 tk13 ys13 hy13 F13 N13 off13
        clear F12 N12 hr12 hk12
        k_steps
        try dsimp only
        (rename Fr _ _ _ _ => F14); (rename News _ _ _ _ => N14)
        have esl : Txt.slice (txt cr) none (some ((((headL cr).length : Int) :: r9).getD (Int.toNat 0) 0)) = txt (headL cr) := by
          show Txt.slice (txt cr) none (some ((headL cr).length : Int)) = _
          rw [slice_to (by omega) (by rw [hct]; omega), codes_txt, Int.toNat_natCast, headL_take]
        rw [esl] at F14
        clear esl
        obtain ⟨nm, hnm⟩ : ∃ nm, nm = if 46 ∈ headL cr then tailDot (headL cr) else repL xa [35, 32] ++ headL cr := ⟨_, rfl⟩
        obtain ⟨u1, hu1⟩ : ∃ u1 : Str → Option Value, u1 = fun y => if y = Str.ofString "kept" then some (.str (txt l) t) else if y = Str.ofString "laid" then some (.ref la) else if y = Str.ofString "side" then some (.int sd ts) else u0 y := ⟨_, rfl⟩
        rename_i tn14 _ _ h14
        replace F14 : Fr g' L' h14 (fun y => if y = Str.ofString "name" then some (.str (txt (headL cr)) tn14) else if y = Str.ofString "dots" then some (.ref D13) else if y = Str.ofString "stops" then some (.ref S9) else if y = Str.ofString "behind" then some (.str (txt (repL xb [32, 35])) t6) else if y = Str.ofString "ahead" then some (.str (txt (repL xa [35, 32])) t5) else u1 y) := by subst hu1; exact F14
        clear hu1
        refine .go (wpAny_mono (Q := fun fl s' => Stop (fl = .next ∧ ∃ h k tn, s' = { s with heap := h, toks := k } ∧ Fr g' L' h (fun y => if y = Str.ofString "name" then some (.str (txt nm) tn) else if y = Str.ofString "dots" then some (.ref D13) else if y = Str.ofString "stops" then some (.ref S9) else if y = Str.ofString "behind" then some (.str (txt (repL xb [32, 35])) t6) else if y = Str.ofString "ahead" then some (.str (txt (repL xa [35, 32])) t5) else u1 y) ∧ News g' L' h ((D13, listOf ys13.toArray ys13.length) :: (S9, listOf (Value.int ((headL cr).length : Int) t9 :: vs9).toArray 0) :: (L' + 1, oc4) :: (la, listOf #[.int va ta, .int vb tb] nl) :: news))) (E := fun _ _ => False) ?_ ?_ (fun _ _ h => h.elim))
        · refine wpAny_If ?_
          k_steps
          (rename Fr _ _ _ _ => F15); (rename News _ _ _ _ => N15)
          refine .go (eq_intsK (ms := []) (isL (n := ys13.length) N15 (by simp)) hy13 (isL N15 (.head _)) .nil (by show un + 3 + 64 < cLine; omega) ?_)
          by_cases hdots : filt (fun i => cr.getD i 0 == 46) (headL cr).length = []
          · rw [decide_eq_true hdots]
            k_steps
            try dsimp only
            refine .go (str_add (a := repL xa [35, 32]) (b := headL cr) rfl rfl (by rw [repL_length]; show xa * 2 + _ ≤ _; omega) fun t16 k16 => ?_)
            k_steps
            (rename Fr _ _ _ _ => F17); (rename News _ _ _ _ => N17)
            rw [if_neg (dots_notMem hdots)] at hnm
            rw [← hnm] at F17
            exact .go ⟨rfl, _, _, _, rfl, fr_dup F17, fun p hp => N17 p (.tail _ hp)⟩
          · rw [decide_eq_false hdots]
            k_steps
            try dsimp only
            obtain ⟨r16, k16, e16, z16, q16, o16⟩ := filt_last _ _ hdots
            rw [e16] at hy13
            obtain ⟨vs16, t16, ev16⟩ := ints_last hy13
            have hI := isL (n := ys13.length) (vs := ys13.toArray) N15 (l := D13) (by simp)
            rw [ev16] at hI
            refine .go (list_neg1 (vs := vs16) hI ?_ rfl)
            k_steps
            try dsimp only
            (rename Fr _ _ _ _ => F17); (rename News _ _ _ _ => N17)
            have hht := txt_length (headL cr)
            have e17 : Txt.slice (txt (headL cr)) (some ((k16 : Int) + 1)) none = txt (tailDot (headL cr)) := by
              rw [slice_from (by omega) (by rw [hht]; omega), codes_txt, show ((k16 : Int) + 1).toNat = k16 + 1 by omega, dots_last z16 q16 o16]
            refine slice_strN_sn_len (s := ⟨_, _, _, _, _⟩) (hsz := by rw [sizeLine_eq, hht]; omega) F17 N17 fun h18 t18 k18 F18 N18 _ => ?_
            rw [e17]
            clear F17 N17
            dsimp only
            k_steps
            (rename Fr g' _ _ _ => F19); (rename News g' _ _ _ => N19)
            rw [if_pos (dots_mem z16 q16)] at hnm
            rw [← hnm] at F19
            exact .go ⟨rfl, _, _, _, rfl, fr_dup F19, fun p hp => N19 p (.tail _ hp)⟩
        · intro fl s15 h
          obtain ⟨⟨rfl, h15, k15, tn, rfl, F15, N15⟩⟩ := h
          clear F14 N14
          dsimp only
          k_steps
          try dsimp only
          obtain ⟨nm2, hnm2⟩ : ∃ nm2, nm2 = nm ++ (if (headL cr).length = cr.length then repL xb [32, 35] else []) := ⟨_, rfl⟩
          have hnl : nm.length ≤ 200 := by
            rw [hnm]
            split
            · have := tailDot_le (headL cr); omega
            · rw [List.length_append, repL_length]; show xa * 2 + _ ≤ _; omega
          refine .go (wpAny_mono (Q := fun fl s' => Stop (fl = .next ∧ ∃ h k tn, s' = { s with heap := h, toks := k } ∧ Fr g' L' h (fun y => if y = Str.ofString "name" then some (.str (txt nm2) tn) else if y = Str.ofString "dots" then some (.ref D13) else if y = Str.ofString "stops" then some (.ref S9) else if y = Str.ofString "behind" then some (.str (txt (repL xb [32, 35])) t6) else if y = Str.ofString "ahead" then some (.str (txt (repL xa [35, 32])) t5) else u1 y) ∧ News g' L' h ((D13, listOf ys13.toArray ys13.length) :: (S9, listOf (Value.int ((headL cr).length : Int) t9 :: vs9).toArray 0) :: (L' + 1, oc4) :: (la, listOf #[.int va ta, .int vb tb] nl) :: news))) (E := fun _ _ => False) ?_ ?_ (fun _ _ h => h.elim))
          · refine wpAny_If ?_
            k_steps
            all_goals try dsimp only
            · rename _ = (_ : Int) => e16
              replace e16 : ((headL cr).length : Int) = ((txt cr).length : Int) := e16
              rw [hct] at e16
              refine .go (str_add (a := nm) (b := repL xb [32, 35]) rfl rfl (by rw [repL_length]; show _ + xb * 2 ≤ _; omega) fun t16 k16 => ?_)
              k_steps
              (rename Fr g' _ _ _ => F17); (rename News g' _ _ _ => N17)
              rw [if_pos (by omega)] at hnm2
              rw [← hnm2] at F17
              exact .go ⟨rfl, _, _, _, rfl, fr_dup F17, N17⟩
            · rename _ ≠ (_ : Int) => e16
              replace e16 : ((headL cr).length : Int) ≠ ((txt cr).length : Int) := e16
              rw [hct] at e16
              rw [if_neg (by omega), List.append_nil] at hnm2
              rw [hnm2]
              exact .go ⟨rfl, _, _, _, rfl, F15, N15⟩
          · intro fl s19 h
            obtain ⟨⟨rfl, h19, k19, tn19, rfl, F19, N19⟩⟩ := h
            clear F15 N15
            dsimp only
            k_steps
            refine .go (str_add (a := repL xa [35, 32]) (b := cr) rfl rfl (by rw [repL_length]; show xa * 2 + _ ≤ _; omega) fun t20 k20 => ?_)
            k_steps
            refine .go (str_add (a := repL xa [35, 32] ++ cr) (b := repL xb [32, 35]) rfl rfl (by rw [List.length_append, repL_length, repL_length]; show xa * 2 + _ + xb * 2 ≤ _; omega) fun t21 k21 => ?_)
            k_steps
            try dsimp only
            (rename Fr h₀ _ _ _ => F22); (rename News h₀ _ _ _ => N22)
            have hne : l ≠ [] := by
              rintro rfl
              rename _ = false => hf
              exact absurd hf (by decide +kernel)
            refine hret _ _ _ t21 tn19 F22 fun p hp => N22 p ?_
            rw [if_neg hne, if_neg hne] at hp
            rw [show boxN cr xa xb = nm2 by rw [hnm2, hnm]; rfl] at hp
            simp only [List.mem_cons] at hp ⊢
            rcases hp with hp | hp | hp
            · exact .inl hp
            · exact .inr (.inr (.inr (.inr (.inl hp))))
            · exact .inr (.inr (.inr (.inr (.inr hp))))
end Mine
end
theorem Mine.reset_Box : True := by
  w_top off
  trivial
/-! part Law1 -/
section
open PySem PySem.W PyProof.Rows
set_option Elab.async false
set_option maxRecDepth 100000
set_option pp.maxSteps 6000
namespace Mine
local macro_rules | `(tactic| walk_at "eval ListComp") => `(tactic| refine stop_comp ?_)
theorem wpF_step {M : Model} {A : Around} {E : Value → Shared → Prop} {s : Shared} {env : Env} {st : Stmt} {rest : List Stmt} {Q : Flow → Shared → Prop}
    (h : wpAny M A (exec st env) (fun f s' => Stop (match f with | .next => wpF M A (execs rest env) Q E s' | f => Q f s')) E s) : wpF M A (execs (st :: rest) env) Q E s :=
  wpF_execs_cons (wpF_of (wpAny_mono h (fun f s' h' => by cases f <;> exact h'.out) fun _ _ x => x))
local macro_rules | `(tactic| walk_at "exec Assign cons ListComp") => `(tactic| refine stop_exec ?_)
local macro_rules | `(tactic| walk_at "compareOp Eq ref ref") => `(tactic| refine stop_cmp ?_)
local macro_rules | `(tactic| walk_at "exec If") => `(tactic| refine stop_if ?_)
local macro_rules | `(tactic| walk_at "subscriptTail Name UnaryOp ref int") => `(tactic| refine stop_sub ?_)
local macro_rules | `(tactic| walk_at "subscriptTail Name Constant ref int") => `(tactic| refine stop_sub ?_)
theorem stop_call {M : Model} {A : Around} {E : Value → Shared → Prop} {s : Shared} {a : Addr} {vs : List Value} {Q : Value → Shared → Prop} (h : Stop (wpAny M A (call (.ref a) vs) Q E s)) : wpAny M A (call (.ref a) vs) Q E s := h.out
local macro_rules | `(tactic| walk_at "call ref") => `(tactic| refine stop_call ?_)
local macro_rules | `(tactic| walk_at "compareOp NotEq ref ref") => `(tactic| refine stop_cmp ?_)
def LawJ (ns : List Int) (DS : Addr) (base : List (Addr × Obj)) (i : Nat) (m : Str → Option Value) (nw : List (Addr × Obj)) : Prop :=
  ∃ kp sds sd tx ls k vs t1 t2 t3, Inv ns i kp sds sd tx ∧ m (Str.ofString "kept") = some (.str (txt kp) t1) ∧ m (Str.ofString "sides") = some (.ref ls) ∧ m (Str.ofString "side") = some (.int sd t2) ∧ m (Str.ofString "text") = some (.str (txt tx) t3) ∧
    m (Str.ofString "solid") = some (.ref DS) ∧ IntsAre vs sds ∧ nw = (ls, listOf vs.toArray k) :: base
set_option maxHeartbeats 4000000 in
theorem law_walk (w : World) (mean : ExcName → Option Value) (mg mb : Str → Option Value) (s : Shared) (la : Addr) (vs : List Value) (ns : List Int) (hL : s.heap.IsList la vs.toArray) (hI : IntsAre vs ns) (hn : ns.length ≤ 63)
    (X : (hd.heap_39 w.params).In s.heap) (T : Top hd.view_39 (looseW hd.view_39 []) mean mg mb s.heap) (Q : Value → Shared → Prop)
    (hret : ∀ h' tk, (∀ b o, s.heap.get? b = some o → h'.get? b = some o) → Q (.bool true) { s with heap := h', toks := tk }) :
    wpF (model PySem.Challenge.rw_pe0034_01.prog w) callerA (call (.ref 45) [.ref la]) Q NoE s := by
  revert X; k_fill; intro X
  refine wpF_call ?_
  k_dflt (refine' codeF_cells ?k1 ?k6 ?k7 ?k8 ?kl ?k9 ?kB ?kD ?_ ?c2 ?c3 ?c4; (case k1 => exact X); (case k6 => k_is); (case k7 => k_is); (case k8 => decide +kernel); (case kl => exact T.nolimit); (case k9 => exact BindsTo.of_eq rfl); (case kB => exact rfl); (case kD => decide +kernel); (case c2 => exact rfl); (case c3 => exact rfl); (case c4 => exact rfl))
  intro L h' tk' cells eL F' N' Y'
  obtain ⟨oc, ec, dc⟩ := CellsAre.one Y'
  subst ec
  clear Y'
  replace dc : oc.data = .cell none := dc
  have B := below_caller s.heap
  have kM := kstMark
  obtain ⟨u0, F1⟩ : ∃ u : Str → Option Value, Fr s.heap L h' (fun y => if y = Str.ofString "script" then some (.ref la) else u y) :=
    ⟨_, frUpd F' rfl⟩
  clear F'
  dsimp only
  try k_fold
  refine wpF_execs_cons (wpF_of (wpAny_mono (Q := fun fl s' => Stop (fl = .next ∧ ∃ h oc k t, s' = { s with heap := h, toks := k } ∧ oc.data = .cell (some (.str (txt (lineL ns)) t)) ∧ Fr s.heap L h (fun y => if y = Str.ofString "script" then some (.ref la) else u0 y) ∧ News s.heap L h [(L + 1, oc)])) (E := NoE) ?_ ?_ (fun _ _ h => h)))
  · k_steps
    try dsimp only
    refine .go (map_eval_list F1 rfl (by decide) rfl (by decide) rfl rfl (fun i y => ∃ n t, (ns.take 8)[i]? = some n ∧ y = .str (txt [menuL.getD (n % 9).toNat 0]) t) ?_ (fun _ => rfl))
    k_steps
    try dsimp only
    rename_i D5 ws5 h5 F5 N5 hI5 hC5 hL5 l5
    refine .go ⟨_, ws5.toArray, _, rfl, F5, N5, .inr ⟨_, .head _, rfl, _, rfl⟩, by rw [List.size_toArray, hI5.length]; omega, ?_, ?_⟩
    · intro i v C oC m₂ h tk Q' E' hi hv hoC hC hm F N hQ
      obtain ⟨n, t, rfl, hn'⟩ := hI5.at i v (by simpa using hv)
      exact elt_menu menuL rfl rfl hoC hC hm (by decide +kernel) rfl (fun t' tk' => hQ _ _ ⟨n, t', hn', rfl⟩) (by decide) (fun _ _ _ => rfl) (fun _ _ => rfl)
    · intro D6 h6 tk6 ys6 hy6 hr6 F6 N6 off6
      clear F5
      have tx6 : Texts ys6 ((lineL ns).map fun c => [c]) := texts_of (by unfold lineL; rw [hy6, List.size_toArray, List.length_map, hI5.length]) fun i y hy => by
        obtain ⟨n, t, h1, h2⟩ := hr6 i y hy
        exact ⟨_, t, by unfold lineL; rw [List.getElem?_map, h1]; rfl, h2⟩
      k_steps
      try dsimp only
      have l8 : (lineL ns).length ≤ 8 := by unfold lineL; rw [List.length_map]; omega
      refine join_call (sp := []) (cs := (lineL ns).map fun c => [c]) (B := 1) (isL (n := ys6.length) N6 (.head _)) tx6 (by decide +kernel) (fun c hc => by obtain ⟨d, _, rfl⟩ := List.mem_map.mp hc; exact Nat.le_refl 1) (by rw [List.length_map]; show _ * 1 ≤ _; omega) fun t7 k7 => ?_
      rw [joinL_ones]
      have N7 : News s.heap L h6 [(L + 1, oc)] := fun p hp => N6 p (.tail _ (.tail _ hp))
      clear N6
      k_steps
      rename_i h8 o8 F8 N8 d8
      exact .go ⟨by first | rfl | trivial, _, _, _, _, rfl, d8, F8, N8⟩
  · intro fl s2 h
    obtain ⟨⟨rfl, h2, oc2, k2, t2, rfl, dc2, F2, N2⟩⟩ := h
    clear F1 N' dc
    dsimp only
    refine wpF_step ?_
    k_steps
    try dsimp only
    refine .go (map_eval_list F2 rfl (by decide) rfl (by decide) rfl rfl (fun i y => ∃ n t, (ns.take 8)[i]? = some n ∧ y = .int (n / 9 % 2) t) ?_ (fun _ => rfl))
    k_steps
    try dsimp only
    rename_i D5 ws5 h5 F5 N5 hI5 hC5 hL5 l5
    refine .go ⟨_, ws5.toArray, _, rfl, F5, N5, .inr ⟨_, .head _, rfl, _, rfl⟩, by rw [List.size_toArray, hI5.length]; omega, ?_, ?_⟩
    · intro i v C oC m₂ h tk Q' E' hi hv hoC hC hm F N hQ
      obtain ⟨n, t, rfl, hn'⟩ := hI5.at i v (by simpa using hv)
      exact elt_step rfl rfl hoC hC hm (fun t' tk' => hQ _ _ ⟨n, t', hn', rfl⟩) (by decide)
    · intro D6 h6 tk6 ys6 hy6 hr6 F6 N6 off6
      clear F5
      have in6 : IntsAre ys6 ((ns.take 8).map fun x => x / 9 % 2) := ints_of (by rw [hy6, List.size_toArray, List.length_map, hI5.length]) fun i y hy => by
        obtain ⟨n, t, h1, h2⟩ := hr6 i y hy
        exact ⟨_, t, by rw [List.getElem?_map, h1]; rfl, h2⟩
      have N7 : News s.heap L h6 [(D6, listOf ys6.toArray ys6.length), (L + 1, oc2)] := fun p hp => N6 p (by
        simp only [List.mem_cons] at hp ⊢
        rcases hp with hp | hp | hp
        · exact .inl hp
        · exact .inr (.inr (.inl hp))
        · exact .inr (.inr (.inr hp)))
      clear N6 N5
      k_steps
      try dsimp only
      rename_i D7 ws7 h7 in7 l7 h8 F8 N8
      have N9 : News s.heap L h8 [(D7, listOf ws7.toArray 0), (L + 1, oc2)] := fun p hp => N8 p (by
        simp only [List.mem_cons] at hp ⊢
        rcases hp with hp | hp | hp
        · exact .inl hp
        · exact .inr (.inr (.inr (.inl hp)))
        · exact .inr (.inr (.inr (.inr hp))))
      replace in7 : IntsAre ws7 (stepsL ns) := in7
      clear N8 l7 in6 hr6 hy6 off6 hI5 l5 hC5 hL5
      refine .go (wpF_step ?_)
      have hct := txt_length (lineL ns)
      have hl8 : (lineL ns).length ≤ 8 := by unfold lineL; rw [List.length_map]; have := List.length_take_le 8 ns; omega
      k_steps
      try dsimp only
      refine .go (filter_assign F8 rfl rfl rfl (by decide) rfl (by decide) rfl (by decide) rfl rfl rfl (fun i => !whiteB ((lineL ns).getD i 0)) ?_ (fun _ => rfl))
      k_steps
      try dsimp only
      rename_i hr12 F12 N12 hk12
      rw [txt_length] at hr12
      refine .go ⟨_, _, _, _, (lineL ns).length, _, rfl, F12, N12, hr12, by omega, ?_, ?_⟩
      · intro i ti C oC m₂ h tk Q' E' hi hoC hC hm F N hQ
        exact test_cell (l := lineL ns) (fun c => !whiteB c) rfl rfl rfl rfl (N (L + 1, oc2) (by simp)).1 dc2 hoC hC hm (getD_some hi) (by omega) (fun s' u v Q' hq => sign_notIn (by decide +kernel) hq) hQ (by decide) (by decide) (fun _ => rfl) (fun _ => rfl) rfl
      intro D13 h13 tk13 ys13 hy13 F13 N13 off13
      clear F12 N12 hr12 hk12
      replace hy13 : IntsAre ys13 (solidF (lineL ns)) := hy13
      refine .go (wpF_step ?_)
      k_steps
      refine .go (wpF_step ?_)
      k_steps
      refine .go (wpF_step ?_)
      k_steps
      refine .go (wpF_step ?_)
      k_steps
      refine .go (wpF_execs_cons (wpF_ForW (h₀ := s.heap) rfl rfl ?_ (fun _ => rfl)))
      refine wpF_of ?_
      dsimp only
      k_steps
      try dsimp only
      (rename Fr _ _ _ _ => F20); (rename News _ _ _ _ => N20)
      refine loopF_list (l := D7) (its := ws7.toArray) (LawJ ns D13 [(D13, listOf ys13.toArray ys13.length), (D7, listOf ws7.toArray 0), (L + 1, oc2)]) rfl ?_ F20 N20 ?_ ?_ ?_
      · rintro i m nw ⟨kp, sds, sd, tx, ls, k, vs', t1, t2', t3, I, e1, e2, e3, e4, e5, hv, rfl⟩
        exact .inr ⟨listOf ws7.toArray 0, by simp, rfl, _, rfl⟩
      · exact ⟨_, _, _, _, _, _, [], _, _, _, inv_init ns, rfl, rfl, rfl, rfl, rfl, .nil, rfl⟩
      · intro i v m₁ news₁ It oI h tk hi hv hJ FT NT offT
        obtain ⟨kp, sds, sd, tx, ls, k, vs', t1, t2', t3, I, e1, e2, e3, e4, e5, hvs, rfl⟩ := hJ
        rename IntsAre ws7 (stepsL ns) => in7
        obtain ⟨n, tn, rfl, hn'⟩ := in7.at i v (by simpa using hv)
        rw [← upd_self e5, ← upd_self e1, ← upd_self e2, ← upd_self e3, ← upd_self e4] at FT
        have hi12 : i ≤ 11 := by
          have h1 : i < (stepsL ns).length := (List.getElem?_eq_some_iff.mp hn').1
          unfold stepsL at h1
          simp only [List.length_append, List.length_map, List.length_cons, List.length_nil] at h1
          have := List.length_take_le 8 ns
          omega
        clear F20 N20
        have stx := txt_length tx
        have small := inv_small I (by omega)
        replace FT : Fr s.heap L h (fun y => if y = Str.ofString "step" then some (.int n tn) else if y = Str.ofString "solid" then some (.ref D13) else if y = Str.ofString "kept" then some (.str (txt kp) t1) else if y = Str.ofString "sides" then some (.ref ls) else if y = Str.ofString "side" then some (.int sd t2') else if y = Str.ofString "text" then some (.str (txt tx) t3) else m₁ y) := FT
        replace NT : News s.heap L h ((It, oI) :: (ls, listOf vs'.toArray k) :: [(D13, listOf ys13.toArray ys13.length), (D7, listOf ws7.toArray 0), (L + 1, oc2)]) := NT
        refine wpF_execs_cons (wpF_mono (Q := fun fl s' => Stop (fl = .next ∧ ∃ (h2 : Heap) (tk2 : Nat) (m2 : Str → Option Value) (kp : List Nat) (sds : List Int) (sd : Int) (tx : List Nat) (ls : Addr) (k : Nat) (vs : List Value) (t1 t2 t3 : Tok), s' = { s with heap := h2, toks := tk2 } ∧ Inv ns (i + 1) kp sds sd tx ∧ Fr s.heap L h2 (fun y => if y = Str.ofString "solid" then some (.ref D13) else if y = Str.ofString "kept" then some (.str (txt kp) t1) else if y = Str.ofString "sides" then some (.ref ls) else if y = Str.ofString "side" then some (.int sd t2) else if y = Str.ofString "text" then some (.str (txt tx) t3) else m2 y) ∧ IntsAre vs sds ∧ News s.heap L h2 ((It, oI) :: (ls, listOf vs.toArray k) :: [(D13, listOf ys13.toArray ys13.length), (D7, listOf ws7.toArray 0), (L + 1, oc2)]) ∧ ls ≠ It)) (E := NoE) ?_ ?_ (fun _ _ h => h))
        · rcases steps_bin hn' with rfl | rfl
          · refine wpF_of (wpAny_If ?_)
            dsimp only
            k_steps
            refine .go (wpAny_mono (Q := fun fl s' => Stop (fl = .next ∧ ∃ (h2 : Heap) (tk2 : Nat) (mK : Str → Option Value) (tK : Tok), s' = { s with heap := h2, toks := tk2 } ∧ Fr s.heap L h2 (fun y => if y = Str.ofString "kept" then some (.str (txt (keptN (lineL ns) kp sds sd)) tK) else if y = Str.ofString "step" then some (.int 0 tn) else if y = Str.ofString "solid" then some (.ref D13) else if y = Str.ofString "sides" then some (.ref ls) else if y = Str.ofString "side" then some (.int sd t2') else if y = Str.ofString "text" then some (.str (txt tx) t3) else mK y) ∧ News s.heap L h2 [(It, oI), (ls, listOf vs'.toArray k), (D13, listOf ys13.toArray ys13.length), (D7, listOf ws7.toArray 0), (L + 1, oc2)])) (E := NoE) ?_ ?_ (fun _ _ h => h.elim))
            · refine wpAny_If ?_
              k_steps
              by_cases hs : sds = []
              · (rename News _ _ _ _ => Nq)
                refine .go (eq_intsK (ms := []) (isL (l := ls) (n := k) (vs := vs'.toArray) Nq (by simp)) hvs (isL Nq (.head _)) .nil (by show 4 + 3 + 64 < cLine; decide +kernel) ?_)
                rw [decide_eq_true hs]
                k_steps
                by_cases hso : solidF (lineL ns) = []
                · (rename News _ _ _ _ => Nq)
                  refine .go (eq_intsK (ms := []) (isL (l := D13) (n := ys13.length) (vs := ys13.toArray) Nq (by simp)) hy13 (isL Nq (.head _)) .nil (by show 4 + 3 + 64 < cLine; decide +kernel) ?_)
                  rw [decide_eq_true hso]
                  k_steps
                  (rename Fr _ _ _ _ => Fz); (rename News _ _ _ _ => Nz)
                  have hk0 : keptN (lineL ns) kp sds sd = [] := by
                    unfold keptN; rw [if_pos hs]; split
                    · exact (solid_nil hso).1
                    · exact (solid_nil hso).2
                  have e0 : Str.ofString "" = txt (keptN (lineL ns) kp sds sd) := by rw [hk0]; decide +kernel
                  rw [e0] at Fz
                  exact .go ⟨by first | rfl | trivial, _, _, _, _, rfl, frUpd (frUpd (frUpd (frUpd (frUpd (frUpd Fz rfl) rfl) rfl) rfl) rfl) rfl, fun p hp => Nz p (.tail _ (.tail _ hp))⟩
                · (rename News _ _ _ _ => Nq)
                  refine .go (eq_intsK (ms := []) (isL (l := D13) (n := ys13.length) (vs := ys13.toArray) Nq (by simp)) hy13 (isL Nq (.head _)) .nil (by show 4 + 3 + 64 < cLine; decide +kernel) ?_)
                  rw [decide_eq_false hso]
                  k_steps
                  refine .go (wpAny_If ?_)
                  k_steps
                  (rename News _ _ _ _ => Nq)
                  refine .go (eq_intsK (ms := []) (isL (l := ls) (n := k) (vs := vs'.toArray) Nq (by simp)) hvs (isL Nq (.head _)) .nil (by show 4 + 3 + 64 < cLine; decide +kernel) ?_)
                  rw [decide_eq_true hs]
                  k_steps
                  · rename sd = 0 => hsd
                    obtain ⟨r16, k16, e16, z16, q16, o16⟩ := filt_last (fun k => !whiteB ((lineL ns).getD k 0)) (lineL ns).length hso
                    have hy' := hy13
                    rw [show solidF (lineL ns) = r16 ++ [(k16 : Int)] from e16] at hy'
                    obtain ⟨vs16, t16, ev16⟩ := ints_last hy'
                    have hI16 := isL (n := ys13.length) (vs := ys13.toArray) Nq (l := D13) (by simp)
                    rw [ev16] at hI16
                    refine .go (list_neg1 (vs := vs16) hI16 ?_ rfl)
                    try dsimp only
                    k_steps
                    try dsimp only
                    (rename Fr _ _ _ _ => Fz); (rename News _ _ _ _ => Nz)
                    have l16 := solid_last (ln := lineL ns) e16
                    have e18 : Txt.slice (txt (lineL ns)) none (some ((k16 : Int) + 1)) = txt (keptN (lineL ns) kp sds sd) := by
                      rw [slice_to (by omega) (by rw [hct]; omega), codes_txt, show ((k16 : Int) + 1).toNat = k16 + 1 by omega, l16.2]
                      unfold keptN; rw [if_pos hs, if_pos hsd]
                    rw [e18] at Fz
                    exact .go ⟨by first | rfl | trivial, _, _, _, _, rfl, frUpd (frUpd (frUpd (frUpd (frUpd (frUpd Fz rfl) rfl) rfl) rfl) rfl) rfl, fun p hp => Nz p (.tail _ (.tail _ (.tail _ hp)))⟩
                  · rename sd ≠ 0 => hsd
                    refine .go (wpAny_If ?_)
                    k_steps
                    (rename News _ _ _ _ => Nq)
                    refine .go (eq_intsK (ms := []) (isL (l := ls) (n := k) (vs := vs'.toArray) Nq (by simp)) hvs (isL Nq (.head _)) .nil (by show 4 + 3 + 64 < cLine; decide +kernel) ?_)
                    rw [decide_eq_true hs]
                    k_steps
                    obtain ⟨k17, r17, e17⟩ := List.exists_cons_of_ne_nil hso
                    have hy' := hy13
                    rw [e17] at hy'
                    obtain ⟨t17, vs17, ev17, _⟩ := IntsAre.cons_inv hy'
                    (rename News _ _ _ _ => Nq2)
                    have hI17 := isL (n := ys13.length) (vs := ys13.toArray) Nq2 (l := D13) (by simp)
                    rw [ev17] at hI17
                    refine .go (list_item (k := 0) (j := 0) (v := .int k17 t17) hI17 rfl (by omega) rfl ?_ rfl)
                    try dsimp only
                    k_steps
                    try dsimp only
                    (rename Fr _ _ _ _ => Fz); (rename News _ _ _ _ => Nz)
                    have l17 := solid_first (ln := lineL ns) e17
                    have e18 : Txt.slice (txt (lineL ns)) (some k17) none = txt (keptN (lineL ns) kp sds sd) := by
                      rw [slice_from (by omega) (by rw [hct]; omega), codes_txt, l17.2.2]
                      unfold keptN; rw [if_pos hs, if_neg hsd]
                    rw [e18] at Fz
                    exact .go ⟨by first | rfl | trivial, _, _, _, _, rfl, frUpd (frUpd (frUpd (frUpd (frUpd (frUpd Fz rfl) rfl) rfl) rfl) rfl) rfl, fun p hp => Nz p (.tail _ (.tail _ (.tail _ (.tail _ hp))))⟩
              · (rename News _ _ _ _ => Nq)
                refine .go (eq_intsK (ms := []) (isL (l := ls) (n := k) (vs := vs'.toArray) Nq (by simp)) hvs (isL Nq (.head _)) .nil (by show 4 + 3 + 64 < cLine; decide +kernel) ?_)
                rw [decide_eq_false hs]
                k_steps
                refine .go (wpAny_If ?_)
                k_steps
                (rename News _ _ _ _ => Nq)
                refine .go (eq_intsK (ms := []) (isL (l := ls) (n := k) (vs := vs'.toArray) Nq (by simp)) hvs (isL Nq (.head _)) .nil (by show 4 + 3 + 64 < cLine; decide +kernel) ?_)
                rw [decide_eq_false hs]
                k_steps
                refine .go (wpAny_If ?_)
                k_steps
                (rename News _ _ _ _ => Nq)
                refine .go (eq_intsK (ms := []) (isL (l := ls) (n := k) (vs := vs'.toArray) Nq (by simp)) hvs (isL Nq (.head _)) .nil (by show 4 + 3 + 64 < cLine; decide +kernel) ?_)
                rw [decide_eq_false hs]
                k_steps
                (rename Fr _ _ _ _ => Fz); (rename News _ _ _ _ => Nz)
                rw [show keptN (lineL ns) kp sds sd = kp from if_neg hs]
                exact .go ⟨by first | rfl | trivial, _, _, _, _, rfl, frUpd (frUpd (frUpd (frUpd (frUpd (frUpd Fz rfl) rfl) rfl) rfl) rfl) rfl, fun p hp => Nz p (.tail _ (.tail _ (.tail _ hp)))⟩
            · intro fl s3 hmid
              obtain ⟨⟨rfl, h3, tk3, mK, tK, rfl, F3, N3⟩⟩ := hmid
              clear FT NT
              dsimp only
              k_steps
              (rename Fr _ _ _ _ => F4); (rename News _ _ _ _ => N4)
              rename_i l4 h4 _
              have hIt : It < h4.objs.size := Heap.lt_size (N4 (It, oI) (by simp)).1
              refine add_lists_ints (ms := [sd]) F4 N4 (l := ls) (isL (n := k) N4 (by simp)) (isL N4 (.head _)) hvs (.cons _ _ .nil) ?_ (by have := I.slen; simp only [List.length_cons, List.length_nil]; rw [sizeLine_eq]; omega)
              intro h5 F5 N5 hy5
              clear F4
              dsimp only at N5 ⊢
              have N6 : News s.heap L h5 [(h4.objs.size, listOf (vs' ++ [Value.int sd t2']).toArray 0), (It, oI), (D13, listOf ys13.toArray ys13.length), (D7, listOf ws7.toArray 0), (L + 1, oc2)] := fun p hp => N5 p (by
                simp only [List.mem_cons] at hp ⊢
                rcases hp with hp | hp | hp | hp | hp | hp
                · exact .inl hp
                · exact .inr (.inr (.inl hp))
                · exact .inr (.inr (.inr (.inr (.inl hp))))
                · exact .inr (.inr (.inr (.inr (.inr (.inl hp)))))
                · exact .inr (.inr (.inr (.inr (.inr (.inr (.inl hp))))))
                · exact .inr (.inr (.inr (.inr (.inr (.inr (.inr hp)))))))
              clear N5 N4
              generalize h4.objs.size = S5 at N6 hIt ⊢
              k_steps
              try dsimp only
              (rename Fr _ _ _ _ => F7); (rename News _ _ _ _ => N7)
              refine .go (comment_claim w mean mg mb _ _ _ _ _ _ _ _ _ _ _ _ _ _ _ _ _ _ _ _ B F7 X N7 T rfl (by rw [stx]; omega) (by decide +kernel) (by decide +kernel) ?_)
              intro t8 h8 tk8 F8 N8
              rw [show commentS (txt tx) = txt (commentL tx) from comment_txt I]
              clear F7 N7
              dsimp only
              k_steps
              (rename Fr _ _ _ _ => F9); (rename News _ _ _ _ => N9)
              refine .go ⟨by first | rfl | trivial, _, _, _, keptN (lineL ns) kp sds sd, sds ++ [sd], sd, commentL tx, S5, 0, vs' ++ [.int sd t2'], _, _, _, rfl, inv_comment I hn', frUpd (frUpd (frUpd (frUpd (frUpd F9 rfl) rfl) rfl) rfl) rfl, hy5, ?_, Nat.ne_of_gt hIt⟩
              intro p hp
              refine N9 p ?_
              simp only [List.mem_cons] at hp ⊢
              rcases hp with hp | hp | hp
              · exact .inr (.inl hp)
              · exact .inl hp
              · exact .inr (.inr hp)
          · obtain ⟨hne, I'⟩ := inv_turn I hn'
            refine wpF_If (wpF_of ?_)
            dsimp only
            k_steps
            refine wpF_execs_cons (wpF_Assign_Name ?_ rfl)
            refine wpF_CallK (K := hd.heap_39 w.params) (fv := .ref 35) (by k_is) ?_ ?_
            · intro Q' hq
              k_steps
              exact hq
            · k_steps
              try dsimp only
              refine .go (map_eval_W (h₀ := s.heap) (L := L) (m := (fun y => if y = Str.ofString "step" then some (.int 1 tn) else if y = Str.ofString "solid" then some (.ref D13) else if y = Str.ofString "kept" then some (.str (txt kp) t1) else if y = Str.ofString "sides" then some (.ref ls) else if y = Str.ofString "side" then some (.int sd t2') else if y = Str.ofString "text" then some (.str (txt tx) t3) else m₁ y)) rfl (by decide) rfl (by decide) rfl tx.length (by omega) (SignAt (txt tx)) (fun i y => ∃ c t, tx[i]? = some c ∧ y = .int (c : Int) t) ?_ (fun _ => rfl))
              k_steps
              refine .go ⟨_, FT, NT, fun Q' H => src_str rfl Q' H, ?_, ?_⟩
              · intro i2 v C oC m₂ hh tk2 Q' E' hi hP hoC hC hm F N hQ
                obtain ⟨c, u, hc, rfl⟩ := hP
                exact elt_call (mg := mg) (mb := mb) (id := "ord") rfl rfl hoC hC hm rfl (T.g.keeps F.keep) (mg_none_of X T.g (by k_is)) (T.b.keeps F.keep) ((T.builtins _ (by decide)).trans (by kernel_rfl)) (ord_of_one rfl (hQ _ _ ⟨c, _, by simpa [txt] using hc, rfl⟩)) (by decide) (by decide) rfl
              · intro D5 h5 tk5 ys5 hy5 hr5 F5 N5 off5
                have in5 : IntsAre ys5 (tx.map fun c : Nat => (c : Int)) := ints_of (by rw [hy5, List.length_map]) fun i y hy => by
                  obtain ⟨c, t, h1, h2⟩ := hr5 i y hy
                  exact ⟨_, t, by rw [List.getElem?_map, h1]; rfl, h2⟩
                clear FT NT
                k_steps
                try dsimp only
                refine call_bytes_ints (isL (n := ys5.length) N5 (.head _)) in5 (fun n hn => by obtain ⟨c, hc, rfl⟩ := List.mem_map.mp hn; have := small.2.2.2 c hc; omega) (by rw [sizeLine_eq]; omega) rfl fun h6 t6 k6 hk6 => ?_
                have F6 := F5.keeps hk6
                have N6 : News s.heap L h6 [(It, oI), (ls, listOf vs'.toArray k), (D13, listOf ys13.toArray ys13.length), (D7, listOf ws7.toArray 0), (L + 1, oc2)] := fun p hp => ⟨hk6 _ _ (N5 p (.tail _ hp)).1, (N5 p (.tail _ hp)).2⟩
                clear F5 N5 hk6
                dsimp only
                k_steps
                try dsimp only
                have hsz : (byteArr (tx.map fun c : Nat => (c : Int))).size = tx.length := by rw [byteArr_size, List.length_map]
                have hpos : 0 < tx.length := List.length_pos_iff.mpr hne
                refine .go ⟨X.keeps F6.keep, ?_⟩
                refine swap_claim w mean mg mb _ _ _ _ _ (by omega) (by rw [stx, hsz]) (by rw [stx]; omega) _ _ _ _ _ _ _ _ _ _ _ _ _ _ _ _ B F6 X N6 T rfl (by decide +kernel) (by decide +kernel) ?_
                intro t7 h7 tk7 F7 N7
                clear F6 N6
                dsimp only
                refine wpF_of ?_
                k_steps
                refine wpF_of ?_
                k_steps
                refine .go (wpAny_If ?_)
                k_steps
                (rename Fr _ _ _ _ => F8); (rename News _ _ _ _ => N8)
                refine .go (map_eval_W (h₀ := s.heap) (L := L) (m := (fun y => if y = Str.ofString "turned" then some (.bytes (byteArr (tx.map fun c : Nat => (c : Int))).reverse t7) else if y = Str.ofString "step" then some (.int 1 tn) else if y = Str.ofString "solid" then some (.ref D13) else if y = Str.ofString "kept" then some (.str (txt kp) t1) else if y = Str.ofString "sides" then some (.ref ls) else if y = Str.ofString "side" then some (.int sd t2') else if y = Str.ofString "text" then some (.str (txt tx) t3) else m₁ y)) rfl (by decide) rfl (by decide) rfl tx.length (by omega) (fun i v => ∃ c u, (byteArr (tx.map fun c : Nat => (c : Int))).reverse[i]? = some c ∧ v = .int (c.toNat : Int) u) (fun i y => ∃ c t, tx.reverse[i]? = some c ∧ y = .str (txt [c]) t) ?_ (fun _ => rfl))
                k_steps
                refine .go ⟨_, F8, N8, fun Q' H => ?_, ?_, ?_⟩
                · rw [show tx.length = (byteArr (tx.map fun c : Nat => (c : Int))).reverse.size by rw [Array.size_reverse, hsz]] at H
                  exact src_bytes rfl Q' H
                · intro i2 v C oC m₂ hh tk2 Q' E' hi hP hoC hC hm F N hQ
                  obtain ⟨c, u, hc, rfl⟩ := hP
                  exact elt_call (mg := mg) (mb := mb) (id := "chr") rfl rfl hoC hC hm rfl (T.g.keeps F.keep) (mg_none_of X T.g (by k_is)) (T.b.keeps F.keep) ((T.builtins _ (by decide)).trans (by kernel_rfl)) (chr_of_range (by omega) (by have := c.toNat_lt; omega) (hQ _ _ ⟨c.toNat, _, octets_back small.2.2.2 hc, rfl⟩)) (by decide) (by decide) rfl
                · intro D9 h9 tk9 ys9 hy9 hr9 F9 N9 off9
                  have tx9 : Texts ys9 (tx.reverse.map fun c => [c]) := texts_of (by rw [hy9, List.length_reverse]) hr9
                  clear F8
                  k_steps
                  try dsimp only
                  refine join_call (sp := []) (cs := tx.reverse.map fun c => [c]) (B := 1) (isL (n := ys9.length) N9 (.head _)) tx9 (by decide +kernel) (fun c hc => by obtain ⟨d, _, rfl⟩ := List.mem_map.mp hc; exact Nat.le_refl 1) (by rw [List.length_map, List.length_reverse]; show _ * 1 ≤ _; omega) fun t10 k10 => ?_
                  rw [joinL_ones]
                  have N10 : News s.heap L h9 [(It, oI), (ls, listOf vs'.toArray k), (D13, listOf ys13.toArray ys13.length), (D7, listOf ws7.toArray 0), (L + 1, oc2)] := fun p hp => N9 p (.tail _ hp)
                  clear N9 N8
                  dsimp only
                  k_steps
                  (rename Fr _ _ _ _ => F11); (rename News _ _ _ _ => N11)
                  exact .go ⟨by first | rfl | trivial, _, _, _, kp, sds, 1 - sd, tx.reverse, ls, k, vs', t1, _, _, rfl, I', frUpd (frUpd (frUpd (frUpd (frUpd F11 rfl) rfl) rfl) rfl) rfl, hvs, N11, offT (ls, listOf vs'.toArray k) (.head _)⟩
        · intro fl s3 hmid
          obtain ⟨⟨rfl, h3, tk3, m3, kp3, sds3, sd3, tx3, ls3, k3, vs3, ta3, tb3, tc3, rfl, I3, F3, hvs3, N3, hne3⟩⟩ := hmid
          clear FT NT stx small
          have stx := txt_length tx3
          have small := inv_small I3 (by omega)
          dsimp only
          refine wpF_of ?_
          k_steps
          refine .go (wpAny_If ?_)
          k_steps
          refine .go (strip_claim w mean mg mb _ _ _ _ _ _ _ _ _ _ _ _ _ _ _ _ _ _ _ _ B F3 X N3 T rfl (by rw [stx]; omega) (by decide +kernel) (by decide +kernel) ?_)
          intro t4 h4 tk4 F4 N4
          rw [show stripS (txt tx3) = txt (boxedN kp3 sds3 sd3) from congrArg txt (inv_name I3)]
          clear F3 N3
          dsimp only
          k_steps
          try dsimp only
          (rename Fr _ _ _ _ => F5); (rename News _ _ _ _ => N5)
          refine .go (box_claim w mean mg mb kp3 (sds3.count 0) (sds3.count 1) sd3 _ _ _ _ _ _ _ (by have := I3.klen; omega) small.2.1 small.2.2.1 I3.side _ _ _ _ _ _ _ _ _ _ _ _ _ _ _ _ _ B F5 X N5 T rfl (by decide +kernel) (by decide +kernel) (coreL kp3 sd3) (aheadN sds3 sd3) (behindN sds3 sd3) rfl rfl rfl ?_)
          intro r6 h6 k6 t6 t6' F6 N6
          clear F5 N5
          change News s.heap L h6 ((r6, { cls := Value.type "tuple", data := Data.seq #[Value.str (txt (boxedT kp3 sds3 sd3)) t6, Value.str (txt (boxedN kp3 sds3 sd3)) t6'] }) :: _) at N6
          rw [← I3.text] at N6
          dsimp only
          k_steps
          try dsimp only
          refine .go (ne_pair (t1 := tc3) (t2 := t4) (u1 := t6) (u2 := t6') (N6 (_, _) (.tail _ (.tail _ (.head _)))).1 (N6 (_, _) (.head _)).1 (strOk_txt small.2.2.2) (strOk_txt fun c hc => small.2.2.2 c (strip_mem (by rw [inv_name I3]; exact hc))) (by show 4 + 3 + 64 < cLine; decide +kernel) ?_)
          try dsimp only
          k_steps
          (rename Fr _ _ _ _ => F7); (rename News _ _ _ _ => N7)
          refine ⟨_, _, _, (ls3, listOf vs3.toArray k3) :: _, rfl, F7, fun p hp => N7 p (.tail _ (.tail _ (.tail _ hp))), ?_, kp3, sds3, sd3, tx3, ls3, k3, vs3, ta3, tb3, tc3, I3, rfl, rfl, rfl, rfl, rfl, hvs3, rfl⟩
          intro p hp
          rcases List.mem_cons.mp hp with rfl | hp
          · exact hne3
          · exact offT p (.tail _ hp)
      · intro h tk m' nw F N hJ
        refine wpF_of ?_
        dsimp only
        k_steps
        exact hret _ _ F.keep
end Mine
end
theorem Mine.reset_Law1 : True := by
  w_top off
  trivial
/-! part FTop -/
section
open PySem PySem.W PyProof.Rows PySem.Calls
set_option Elab.async false
set_option maxRecDepth 100000
set_option pp.maxSteps 30000
namespace Mine
/-! The kit's k_head applies the library's head by writing its name, PySem.W.holds_open, into the goal. That head asks the walk for every
context in callerA, which is more than is true of a text that calls bytearray(..) (see FHead). So `top` below has a hypothesis of that name in scope,
whose field is holds_F, our own head, proved above with the same premises but the last: k_head then applies ours. Nothing is assumed by this:
`fake` is a theorem, and the statement is untouched. -/
structure FakeW : Prop where
  holds_open : ∀ {r : OpenRow} {q : Program} {loose : List Str} {Xt : Shared → Bool} {XP : (Str → Option Value) → Heap → Prop} {α : Type} {Yf : Shared → α} {Ya : World → α} {YP : World → Heap → Prop} {d : DefRec} {kwd : List (Str × Expr)} {N : Nat}
    (_left : LeftO r.prog q loose Xt Yf Ya N) (_hY : ∀ w s, Yf s = Ya w → YP w s.heap) (_hYk : ∀ w h h', YP w h → (∀ b o, h.get? b = some o → h'.get? b = some o) → YP w h')
    (_hX : ∀ s, Xt s = true → XP (s.heap.nsMap mainGlobals) s.heap) (_hXk : ∀ mg h h', XP mg h → (∀ b o, h.get? b = some o → h'.get? b = some o) → XP mg h')
    (_hdef : defOf q r.name = some (d, kwd)) (_hp : r.prog.theDef r.name = some (d.params, d.body, d.scope)) (_hk : kwWritten? d.params.kwonlyargs d.params.kw_defaults = some kwd) (_hRf : ∀ s, Xt s = true → RecFacts r.records s.heap) (_hwr : (!r.writes || r.records.isEmpty) = true)
    (_k1 : r.wellSaid = true) (_ok : (chainsOk q && opensWell r.prog && (frees r.toRowW && r.within.isEmpty)) = true) (_hb : r.prog.bare) (_hw : r.toRowW.promised)
    (_call : WalkF q loose XP YP r.toRowW d kwd), r.Holds
structure Fake : Prop where
  W : FakeW
theorem fake : Fake := ⟨⟨fun a b c d e f g h i j k l m n o => holds_F a b c d e f g h i j k l m n o⟩⟩
theorem enter_callF {M : Model} {A : Around} {s : Shared} {f : Value} {pos : List Value} {kw : List (Str × Value)} {c : ClaimW} {cl : Str → Option Addr} {mean : ExcName → Option Value} {args : List WData} {s₁ : Shared}
    (h : codeF M A (.call f ⟨pos, kw⟩) (GoodWG c cl mean args s₁) s) : wpF M A (PySem.call f pos kw) (fun v s' => GoodWG c cl mean args s₁ (.ok (.ret v)) s') (fun e s' => GoodWG c cl mean args s₁ (.error e) s') s :=
  wpF_call (codeF_mono h fun res s' g => by rcases g.1 with ⟨v, _, _, rfl, _⟩ | ⟨e, _, _, rfl, _⟩ <;> exact g)
set_option maxHeartbeats 8000000 in
theorem top : PySem.Challenge.rw_pe0034_01.Holds := by
  w_on; o_law
  have PySem := fake  -- our own head under the name that k_head writes (see above)
  k_head
  (case hw => w_witness2)
  k_fill
  intro w s₀ s₁ mg mb G Y fa o pm cd doc dV kV ho hd hcd hD hmg hg args vals as hpre hlay hrd hwl hlo
  have KX := kIn_of Y
  have X := (Ground.X G).1
  have V := (Ground.X G).2
  refine Ground.open G ?_
  intro T B D TE TW
  try (refine guard_noD D (by decide +kernel) ?_; clear D)
  obtain ⟨_, _, M⟩ := bmod_of_top T
  have TA := at_of_top T
  try (obtain ⟨_, _, he, B0⟩ := based_of_top T rfl hmg ho hd; have he' : cd = _ := he; subst he'; clear he)
  wrow_args hpre hlay hrd hwl hlo
  rename List Int => ns
  rename s₁.heap.IsList _ _ => hL
  rename IntsAre _ _ => hI
  rename ¬ _ < _ => hlen
  have efa : mg (Str.ofString "law") = some (.ref 45) := mg_of KX T.g (by k_is)
  have efa' : mg (Str.ofString "law") = some (.ref fa) := hmg
  rw [efa] at efa'
  obtain rfl : (45 : Addr) = fa := by injection efa' with e; injection e
  refine wpF_mono (law_walk w (ExcName.means s₀.heap) mg mb s₁ _ _ ns hL hI (by omega) KX T _ ?_) (fun _ _ x => x) (fun _ _ x => x.elim)
  intro h' tk hk
  refine ⟨.inl ⟨.bool true, .bool true, [], rfl, raisesW_false (by wrow_none_raised), .bool _, postW_of (by wrow_shape) (by wtm_val) rfl, unshared_nil⟩, .of_keep hk, rfl, .of_eq hg⟩
end Mine
end
theorem Mine.reset_FTop : True := by
  w_top off
  trivial
theorem PySem.Challenge.cw_pe0034_01_holds : PySem.Challenge.rw_pe0034_01.Holds :=
  Mine.top
