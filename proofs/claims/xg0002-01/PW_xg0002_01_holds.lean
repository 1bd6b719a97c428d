import PyProof.Rows.All
import Wide.All
import OpenK.AllK
import Wide.FinOn
import Lean
import PySem.Challenge.RW_xg0002_01
set_option Elab.async false

section
-- part: Hd
open PySem PySem.W PyProof.Rows
namespace Mine
set_option maxRecDepth 100000 in
set_option maxHeartbeats 8000000 in
open_top hd for PySem.Challenge.rw_xg0002_01
end Mine
end

section
-- part: Nxt
open PySem PySem.W PyProof.Rows PySem.Calls
namespace Mine
abbrev itObj (l : Addr) (i : Nat) : Obj := { cls := .type "list_iterator", data := .fields #[.ref l, .int i 0] }
section
variable {prog : Program} {w : World} {A : Around} {E : Value → Shared → Prop} {s : Shared} {h₀ : Heap} {L l it : Addr} {m : Str → Option Value} {news pre post : List (Addr × Obj)} {items : Array Value} {i : Nat} {x : Value}

theorem nx_iter {Q : Value → Shared → Prop} (F : Fr h₀ L s.heap m) (N : News h₀ L s.heap news) (hl : s.heap.IsList l items)
    (h : ∀ (I : Addr) h', Fr h₀ L h' m → News h₀ L h' ((I, itObj l 0) :: news) → (∀ p ∈ news, p.1 < I) → Q (.ref I) { s with heap := h' }) :
    wpAny (model prog w) A (call (.builtin "iter") [.ref l]) Q E s := by
  refine call_function_entry (by decide +kernel) (by decide +kernel) kdk_entry_iter (kdk_args_iter _) ?_
  unfold Builtin.«iter»
  refine wpAny_bind (m := someArgs "iter" 1 2 _) (wpAny_of_eq (a := [Value.ref l]) (by first | rfl | kernel_rfl!) ?_)
  show wpAny _ _ (pyIter (.ref l) >>= _) _ _ _
  refine wpAny_bind (wpAny_pyIter_list hl ?_)
  exact wpAny_pure ⟨_, rfl, h _ _ (F.push _) (News.push F N _ rfl) (fun q hq => Heap.lt_size (N q hq).1)⟩

theorem nx_next {Q : Value → Shared → Prop} (F : Fr h₀ L s.heap m) (N : News h₀ L s.heap ((it, itObj l i) :: news)) (off : ∀ p ∈ news, p.1 ≠ it)
    (hl : s.heap.IsList l items) (hx : items[i]? = some x)
    (h : ∀ h', Fr h₀ L h' m → News h₀ L h' ((it, itObj l (i + 1)) :: news) → Q x { s with heap := h' }) :
    wpAny (model prog w) A (call (.builtin "next") [.ref it]) Q E s := by
  have hm := N (it, itObj l i) (.head _)
  have ho : s.heap.get? it = some (itObj l i) := hm.1
  have hit : s.heap.IsListIter it l i := ⟨_, ho, rfl, rfl⟩
  obtain ⟨ol, hol, _, nl, hdl⟩ := id hl
  refine call_function_entry (by decide +kernel) (by decide +kernel) kdk_entry_next (kdk_args_next _) ?_
  unfold Builtin.«next»
  refine wpAny_bind (m := someArgs "next" 1 2 _) (wpAny_of_eq (a := [Value.ref it]) (by first | rfl | kernel_rfl!) ?_)
  dsimp only
  refine wpAny_bind (wpAny_specialOf (name := Str.ofString "__next__") hit.typeIs slot_listiter_next.lookup ?_)
  refine wpAny_ite_split (fun hab => absurd hab (by decide)) (fun _ => ?_)
  refine wpAny_bind (wpAny_callSpecial?_slot (name := Str.ofString "__next__") hit.typeIs slot_listiter_next
    (wpAny_call_entry slot_listiter_next hit.typeIs entry_listiter_next ?_ (args_listiter_next _)))
  show wpAny _ _ (field (.ref it) 0 >>= _) _ _ s
  refine wpAny_bind (wpAny_field ho rfl (x := .ref l) rfl ?_)
  show wpAny _ _ (if (Value.ref l == Value.none) = true then _ else _) _ _ s
  rw [if_neg (show ¬ ((Value.ref l == Value.none) = true) from Bool.false_ne_true)]
  show wpAny _ _ (field (.ref it) 1 >>= _) _ _ s
  refine wpAny_bind (wpAny_field ho rfl (x := .int i 0) rfl ?_)
  show wpAny _ _ (seqItems? (.ref l) >>= _) _ _ s
  refine wpAny_bind (wpAny_seqItems hol hdl ?_)
  simp only [Int.toNat_natCast, hx]
  have e : (fun o : Obj => Obj.mapFields (·.setIfInBounds 1 (rawInt ((i : Int) + 1))) o) (itObj l i) = itObj l (i + 1) := by
    simp [Obj.mapFields, rawInt]
  obtain ⟨F', N'⟩ := news_upd (pre := []) (post := news) (o' := itObj l (i + 1)) (f := Obj.mapFields (·.setIfInBounds 1 (rawInt ((i : Int) + 1)))) F N (fun _ hp => nomatch hp) off e rfl
  refine wpAny_bind (wpAny_setField ho rfl (by simp) (wpAny_pure ⟨x, rfl, wpAny_pure ⟨_, rfl, h _ F' N'⟩⟩))

theorem nx_end {Q : Value → Shared → Prop} (hh : A.handled = none) (F : Fr h₀ L s.heap m) (N : News h₀ L s.heap ((it, itObj l i) :: news)) (off : ∀ p ∈ news, p.1 ≠ it)
    (hl : s.heap.IsList l items) (hx : items[i]? = none)
    (h : ∀ h₂ h' e, Fr h₀ L h₂ m → News h₀ L h₂ news → Heap.NewExc h₂ h' e "StopIteration" → E (.ref e) { s with heap := h' }) :
    wpAny (model prog w) A (call (.builtin "next") [.ref it]) Q E s := by
  have hm := N (it, itObj l i) (.head _)
  have ho : s.heap.get? it = some (itObj l i) := hm.1
  have hit : s.heap.IsListIter it l i := ⟨_, ho, rfl, rfl⟩
  obtain ⟨ol, hol, _, nl, hdl⟩ := id hl
  refine call_function_entry (by decide +kernel) (by decide +kernel) kdk_entry_next (kdk_args_next _) ?_
  unfold Builtin.«next»
  refine wpAny_bind (m := someArgs "next" 1 2 _) (wpAny_of_eq (a := [Value.ref it]) (by first | rfl | kernel_rfl!) ?_)
  dsimp only
  refine wpAny_bind (wpAny_specialOf (name := Str.ofString "__next__") hit.typeIs slot_listiter_next.lookup ?_)
  refine wpAny_ite_split (fun hab => absurd hab (by decide)) (fun _ => ?_)
  refine wpAny_bind (wpAny_callSpecial?_slot (name := Str.ofString "__next__") hit.typeIs slot_listiter_next
    (wpAny_call_entry slot_listiter_next hit.typeIs entry_listiter_next ?_ (args_listiter_next _)))
  show wpAny _ _ (field (.ref it) 0 >>= _) _ _ s
  refine wpAny_bind (wpAny_field ho rfl (x := .ref l) rfl ?_)
  show wpAny _ _ (if (Value.ref l == Value.none) = true then _ else _) _ _ s
  rw [if_neg (show ¬ ((Value.ref l == Value.none) = true) from Bool.false_ne_true)]
  show wpAny _ _ (field (.ref it) 1 >>= _) _ _ s
  refine wpAny_bind (wpAny_field ho rfl (x := .int i 0) rfl ?_)
  show wpAny _ _ (seqItems? (.ref l) >>= _) _ _ s
  refine wpAny_bind (wpAny_seqItems hol hdl ?_)
  simp only [Int.toNat_natCast, hx]
  obtain ⟨F', N'⟩ := news_upd (pre := []) (post := news) (f := Obj.mapFields (·.setIfInBounds 0 .none)) F N (fun _ hp => nomatch hp) off rfl rfl
  refine wpAny_bind (wpAny_rule (wpAny_bind (wpAny_setField ho rfl (by simp) ?_)))
  show wpAny _ _ (newExc (.type "StopIteration") [] >>= _) _ _ _
  refine wpAny_bind ?_
  simp only [newExc, newTuple]
  refine wpAny_bind (wpAny_newObj_type ?_ (by size_fits))
  refine wpAny_bind (m := firstArgMember _ _) (wpAny_of_eq (a := Value.none) (by first | rfl | (simp only [firstArgMember]; rfl)) ?_)
  refine wpAny_newObj_type ?_ (by size_fits)
  simp only [raiseNew]
  refine wpAny_bind (wpAny_handled ?_)
  rw [show A.in1.handled = none from hh]
  refine wpAny_bind (wpAny_pure (wpAny_throw ?_))
  exact h _ _ _ F' (fun p hp => N' p (by simp [hp])) ⟨fun b o hb => Heap.get?_push_of_some _ (Heap.get?_push_of_some _ hb), Heap.get?_none_of_le (by simp), _, .ref (s.heap.update it (Obj.mapFields (·.setIfInBounds 0 .none))).objs.size, Heap.get?_push_size _ rfl, rfl, rfl⟩
end
end Mine
end

section
-- part: Bits
open PySem PySem.W PyProof.Rows PySem.Calls
namespace Mine
theorem and0 (a r : Nat) (h : r < 64) : (a * 64) &&& r = 0 := by
  apply Nat.eq_of_testBit_eq
  intro j
  rw [Nat.testBit_and, Nat.zero_testBit]
  by_cases hj : j < 6
  · have : (a * 2 ^ 6).testBit j = false := by
      rw [Nat.testBit_mul_two_pow]; simp; omega
    rw [show a * 64 = a * 2 ^ 6 from rfl, this]; rfl
  · have : r.testBit j = false := Nat.testBit_lt_two_pow (Nat.lt_of_lt_of_le (show r < 2 ^ 6 from h) (Nat.pow_le_pow_right (by omega) (by omega)))
    rw [this]; simp
theorem or_low {v r : Int} (hv : 0 ≤ v) (h0 : 0 ≤ r) (h1 : r < 64) : Builtin.bitOr (v * 64) r = v * 64 + r := by
  rw [bitOr_and, bitAnd_pp (by omega) h0]
  have e : (v * 64).toNat = v.toNat * 64 := by omega
  rw [e, and0 _ _ (by omega)]
  simp
theorem and64 (b : Int) : Builtin.bitAnd b 64 = (b / 64 % 2) * 64 := kbt_bit b 6
theorem and63 (b : Int) : Builtin.bitAnd b 63 = b % 64 := bitAnd_m6 b
theorem bits_step {v r : Int} {k : Nat} (h0 : 0 ≤ r) (h1 : r < 64) (hv : 0 ≤ v) (h : v < 2 ^ (6 * k)) : v * 64 + r < 2 ^ (6 * (k + 1)) := by
  have : (2 : Int) ^ (6 * (k + 1)) = 2 ^ (6 * k) * 64 := by rw [Nat.mul_add, Int.pow_add]; rfl
  omega
theorem bits_le {v : Int} {k : Nat} (hv : 0 ≤ v) (h : v < 2 ^ k) : Builtin.Int.intBits v ≤ k := by
  refine intBits_le_iff.mpr ?_
  have : ((2 ^ k : Nat) : Int) = 2 ^ k := kbt_cast k
  omega
end Mine
end

section
-- part: Parse
open PySem PySem.W PyProof.Rows PySem.Calls
set_option maxRecDepth 100000
namespace Mine
abbrev PR : Program := PySem.Challenge.rw_xg0002_01.row.prog
def rdGo (val b : Int) : List Int → Nat → Option (Int × Nat)
  | [], n => if b / 64 % 2 = 0 then some (val, n) else none
  | c :: r, n => if b / 64 % 2 = 0 then some (val, n) else rdGo (val * 64 + c % 64) c r (n + 1)
theorem rdGo_done {val b : Int} {n : Nat} (h : b / 64 % 2 = 0) : ∀ r, rdGo val b r n = some (val, n)
  | [] => by rw [rdGo, if_pos h]
  | _ :: _ => by rw [rdGo, if_pos h]
def rd : List Int → Option (Int × Nat)
  | [] => none
  | b :: r => rdGo (b % 64) b r 1

theorem fr_tok {g h : Heap} {L : Addr} {k : Str} {v : Int} {t : Tok} {m : Str → Option Value} (F : Fr g L h (fun y => if y = k then some (.int v t) else m y)) : ∃ t', Fr g L h (fun y => if y = k then some (.int v t') else m y) := ⟨t, F⟩
structure PS where
  v : Int
  b : Int
  i : Nat
  tv : Tok
  tb : Tok
def Stop (P : Prop) : Prop := P
theorem Stop.intro {P : Prop} (h : Stop P) : P := h
local macro_rules | `(tactic| walk_at "exec While BinOp cons nil") => `(tactic| refine Stop.intro ?_)

set_option maxHeartbeats 8000000 in
theorem parse_call {w : World} {A A₀ : Around} {E : Value → Shared → Prop} {s : Shared} {base h₀ : Heap} {outer : List Env} {env : Env} {L l it : Addr} {m : Str → Option Value} {news : List (Addr × Obj)} {vs : List Value} {bs : List Int} {n i : Nat}
    {mean : ExcName → Option Value} {mg mb : Str → Option Value} {Q : Value → Shared → Prop}
    (B : Below A₀ base outer h₀) (F : Fr h₀ L s.heap m) (X₀ : (hd.heap_39 w.params).In h₀)
    (N : News h₀ L s.heap ((it, itObj l i) :: (l, listOf vs.toArray n) :: news)) (off : ∀ p ∈ news, p.1 ≠ it)
    (T : Top hd.view_39 (looseW hd.view_39 []) mean mg mb h₀)
    (hA : A.frames = some (env :: outer)) (hf : env.frame = some L) (hke : env.scope.kind = .function) (hroom : A.depth < recursionLimit) (hh : A.handled = none)
    (hi : IntsAre vs bs) (hb : ∀ b ∈ bs, 0 ≤ b ∧ b < 256) (hlen : bs.length ≤ 100000)
    (hQ : ∀ v k, rd (bs.drop i) = some (v, k) → ∀ h' tk t, Fr h₀ L h' m → News h₀ L h' ((it, itObj l (i + k)) :: (l, listOf vs.toArray n) :: news) → Q (.int v t) { s with heap := h', toks := tk })
    (hE : rd (bs.drop i) = none → ∀ h' tk e g, Fr h₀ L g m → RaisedSN base g (env :: outer) e (.type "StopIteration") ((l, listOf vs.toArray n) :: news) h' → g.UpToSlots h' → E (.ref e) { s with heap := h', toks := tk }) :
    wpAny (model PySem.Challenge.rw_xg0002_01.row.prog w) A (call (.ref 21) [.ref it]) Q E s := by
  w_top off
  revert X₀
  k_fill
  intro X₀
  refine wpAny_call ?_
  k_dflt (refine' code_def (binds := [(Str.ofString "iterator", Value.ref it)]) B F X₀ N T hA hf hke ?k6 ?k7 hroom ?k9 ?kB ?_ ?c2 ?c3 ?c4 ?c5; (case k6 => k_is); (case k7 => k_is); (case k9 => exact BindsTo.of_eq rfl); (case c5 => decide); (case kB => exact locs rfl); (case c2 => exact rfl); (case c3 => exact rfl); (case c4 => exact rfl); k_whole; intro g' L' h' FG' F' N' B' X' T'; (try dsimp only))
  k_fold
  k_steps
  have hl : ∀ h' news', News g' L' h' news' → (l, listOf vs.toArray n) ∈ news' → h'.IsList l vs.toArray := fun h' news' N hm => ⟨_, (N _ hm).1, rfl, _, rfl⟩
  have hne : l ≠ it := fun e => by
    have h1 := (N' _ (.head _)).1
    have h2 := (N' _ (.tail _ (.head _))).1
    dsimp only at h1 h2
    rw [e, h1] at h2
    exact absurd (show Value.type "list_iterator" = Value.type "list" from congrArg Obj.cls (Option.some.inj h2)) (by decide)
  have off' : ∀ p ∈ ((l, listOf vs.toArray n) :: news), p.1 ≠ it := fun p hp => by
    rcases List.mem_cons.mp hp with rfl | hp
    · exact hne
    · exact off p hp
  cases hx : bs[i]? with
  | none =>
    have hd0 : bs.drop i = [] := List.drop_eq_nil_of_le (by simpa using hx)
    refine nx_end hh F' N' off' (hl _ _ N' (by simp)) (by simpa [hi.length] using hx) ?_
    intro h₂ h₃ e F₂ N₂ hnew
    dsimp only [ek]
    refine leave_newS B' hnew F₂ N₂ ?_
    intro h₄ R _ up
    exact hE (by rw [hd0]; rfl) h₄ tk e g' FG' R up
  | some b =>
    obtain ⟨t, hv⟩ := hi.get i b hx
    refine nx_next F' N' off' (hl _ _ N' (by simp)) (by simpa using hv) ?_
    intro h' F' N'
    k_steps
    unfold Stop
    rename Fr _ _ _ _ => F'
    rename News _ _ _ _ => N'
    obtain ⟨tv, F'⟩ : ∃ tv, Fr g' L' _ (fun y => if y = Str.ofString "val" then some (Value.int (b % 64) tv) else if y = Str.ofString "b" then some (Value.int b t) else List.lookup y [(Str.ofString "iterator", Value.ref it)].reverse) := ⟨_, by rw [← and63]; exact F'⟩
    have hd : bs.drop i = b :: bs.drop (i + 1) := by
      rw [List.drop_eq_getElem_cons (by exact (List.getElem?_eq_some_iff.mp hx).1)]
      rw [(List.getElem?_eq_some_iff.mp hx).2]
    have hbb := hb b (List.mem_of_getElem? hx)
    have hil : i < bs.length := (List.getElem?_eq_some_iff.mp hx).1
    refine ksw_while (σ := PS) (fun c => (it, itObj l c.i) :: (l, listOf vs.toArray n) :: news)
      (fun c => [(Str.ofString "b", .int c.b c.tb), (Str.ofString "val", .int c.v c.tv)]) (fun _ => True) []
      (fun c => i < c.i ∧ c.i ≤ bs.length ∧ 0 ≤ c.b ∧ c.b < 256 ∧ 0 ≤ c.v ∧ c.v < 2 ^ (6 * c.i) ∧ rd (bs.drop i) = rdGo c.v c.b (bs.drop c.i) (c.i - i))
      (fun c => bs.length - c.i) ⟨b % 64, b, i + 1, tv, t⟩ F' N' trivial ?_ ?_ ?_
    · intro p hp
      rcases List.mem_cons.mp hp with rfl | hp
      · rfl
      · rcases List.mem_cons.mp hp with rfl | hp
        · rfl
        · cases hp
    · refine ⟨by simp, by simp only; omega, by simp only; omega, by simp only; omega, by simp only; omega, ?_, ?_⟩
      · have := bits_step (v := 0) (r := b % 64) (k := i) (by omega) (by omega) (by omega) (Int.pow_pos (by decide))
        simpa using this
      · rw [hd]
        simp only [rd]
        congr 1
        omega
    · intro c u h₁ tk₁ _ hP F' N'
      obtain ⟨p1, p2, p3, p4, p5, p6, p7⟩ := hP
      k_steps
      · refine ilshift_int_or hh (fun h => absurd h (by decide)) (fun _ => ?_) (fun _ => ?_)
        · have h1 : Builtin.Int.intBits c.v ≤ 6 * c.i := bits_le p5 p6
          show (Builtin.Int.intBits c.v : Int) + 6 ≤ 2 ^ 27
          have h2 : (2 : Int) ^ 27 = 134217728 := by decide
          omega
        · have ev : c.v * 2 ^ (6 : Int).toNat = c.v * 64 := rfl
          rw [ev]
          have hbit : c.b / 64 % 2 = 1 := by
            rename Builtin.bitAnd c.b 64 ≠ 0 => hnz
            rw [and64] at hnz
            omega
          k_steps
          rename Fr _ _ _ _ => F'
          rename News _ _ _ _ => N'
          cases hx' : bs[c.i]? with
          | none =>
            have hd0 : bs.drop c.i = [] := List.drop_eq_nil_of_le (by simpa using hx')
            refine nx_end hh F' N' off' (hl _ _ N' (by simp)) (by simpa [hi.length] using hx') ?_
            intro h₂ h₃ e F₂ N₂ hnew
            dsimp only [ek]
            refine leave_newS B' hnew F₂ N₂ ?_
            intro h₄ R _ up
            refine hE ?_ h₄ _ e g' FG' R up
            rw [p7, hd0, rdGo, if_neg (by omega)]
          | some b' =>
            obtain ⟨t', hv'⟩ := hi.get c.i b' hx'
            have hbb' := hb b' (List.mem_of_getElem? hx')
            refine nx_next F' N' off' (hl _ _ N' (by simp)) (by simpa using hv') ?_
            intro h' F' N'
            k_steps
            rename Fr _ _ _ _ => F'
            rename News _ _ _ _ => N'
            rw [and63, or_low p5 (by omega) (by omega)] at F'
            have hil' : c.i < bs.length := (List.getElem?_eq_some_iff.mp hx').1
            have hd' : bs.drop c.i = b' :: bs.drop (c.i + 1) := by
              rw [List.drop_eq_getElem_cons hil', (List.getElem?_eq_some_iff.mp hx').2]
            obtain ⟨tv', F'⟩ := fr_tok F'
            refine ksw_end ⟨c.v * 64 + b' % 64, b', c.i + 1, tv', t'⟩ F' N' (fun p hp => hp) trivial ?_ ?_ ?_ (by show bs.length - (c.i + 1) < bs.length - c.i; omega)
            · intro p hp
              rcases List.mem_cons.mp hp with rfl | hp
              · rfl
              · rcases List.mem_cons.mp hp with rfl | hp
                · rfl
                · cases hp
            · intro z hz _
              have z1 := hz _ (.head _)
              have z2 := hz _ (.tail _ (.head _))
              dsimp only at z1 z2
              simp only [if_neg z1, if_neg z2]
              unfold kstB kstB kstB
              simp [z1, z2]
            · refine ⟨by simp only; omega, by simp only; omega, by simp only; omega, by simp only; omega, by simp only; omega, ?_, ?_⟩
              · exact bits_step (by omega) (by omega) p5 p6
              · rw [p7, hd', rdGo, if_neg (by omega)]
                simp only
                congr 1
                omega
      · rename Builtin.bitAnd c.b 64 = 0 => hz
        rename Fr h₀ L _ m => F'
        rename News h₀ L _ _ => N'
        rw [and64] at hz
        have hr : rd (bs.drop i) = some (c.v, c.i - i) := by
          rw [p7, rdGo_done (by omega)]
        have e : i + (c.i - i) = c.i := by omega
        exact hQ _ _ hr _ _ _ F' (by rw [e]; exact N')
end Mine
end

section
-- part: Read
open PySem PySem.W PyProof.Rows PySem.Calls
set_option maxRecDepth 100000
namespace Mine
local macro_rules | `(tactic| walk_at "call ref") => `(tactic| refine Stop.intro ?_)
local macro_rules | `(tactic| walk_at "noteFrame ref") => `(tactic| refine Stop.intro ?_)

set_option maxHeartbeats 8000000 in
theorem read_call {w : World} {A A₀ : Around} {E : Value → Shared → Prop} {s : Shared} {h₀ : Heap} {cn : Str} {cs : Scope} {a : Addr} {ccd : Value} {L l it : Addr} {m : Str → Option Value} {news : List (Addr × Obj)} {vs : List Value} {bs : List Int} {n i : Nat}
    {mean : ExcName → Option Value} {mg mb : Str → Option Value} {Q : Value → Shared → Prop}
    (B : Below A₀ h₀ [] h₀) (F : Fr h₀ L s.heap m) (X₀ : (hd.heap_39 w.params).In h₀)
    (N : News h₀ L s.heap ((it, itObj l i) :: (l, listOf vs.toArray n) :: news)) (off : ∀ p ∈ news, p.1 ≠ it)
    (T : Top hd.view_39 (looseW hd.view_39 []) mean mg mb h₀)
    (hA : A.frames = some [envOf cn cs L a ccd]) (hck : cs.kind = .function) (hroom : A.depth + 1 < recursionLimit) (hh : A.handled = none)
    (hi : IntsAre vs bs) (hb : ∀ b ∈ bs, 0 ≤ b ∧ b < 256) (hlen : bs.length ≤ 100000)
    (hQ : ∀ v k, rd (bs.drop i) = some (v, k) → ∀ h' tk t, Fr h₀ L h' m → News h₀ L h' ((it, itObj l (i + k)) :: (l, listOf vs.toArray n) :: news) → Q (.int v t) { s with heap := h', toks := tk })
    (hQn : rd (bs.drop i) = none → ∀ h' tk, Fr h₀ L h' m → News h₀ L h' ((l, listOf vs.toArray n) :: news) → Q .none { s with heap := h', toks := tk }) :
    wpAny (model PySem.Challenge.rw_xg0002_01.row.prog w) A (call (.ref 33) [.ref it]) Q E s := by
  w_top off
  revert X₀
  k_fill
  intro X₀
  refine wpAny_call ?_
  k_dflt (refine' code_defS0 (binds := [(Str.ofString "feed", Value.ref it)]) B F X₀ N T hA ?k6 ?k7 ?k8 ?k9 ?kB ?_ hck ?c2 ?c3 ?c4 ?c5; (case k6 => k_is); (case k7 => k_is); (case k8 => exact Nat.lt_of_succ_lt hroom); (case k9 => exact BindsTo.of_eq rfl); (case c5 => decide); (case kB => exact locs rfl); (case c2 => exact rfl); (case c3 => exact rfl); (case c4 => exact rfl); k_whole; intro g' L' h' FG' F' N' B' X' T' D'; (try dsimp only))
  k_fold
  k_steps
  unfold Stop
  refine parse_call B' F' X' N' off T' (Around.frames_deeper B'.stack) rfl rfl hroom hh hi hb hlen ?_ ?_
  · intro v k hr h' tk t F' N'
    exact leaveS0_ F' N' KtsTurn.refl (fun F N => hQ v k hr _ _ _ F N)
  · intro hr h' tk e g F₁ R up
    refine caught_SN0 (T' := "StopIteration") R F₁ B' up X₀ T D' KtsTurn.refl ?ex PyProof.Rows.Boot.«StopIteration» (by decide) (by rw [isSubtype_type]; kernel_rfl) ?nt (by rw [isSubtype_type]; kernel_rfl) ?_
    case ex => k_dflt k_is
    case nt =>
      rw [show ((Manifest.find? "StopIteration").elim "type" fun x => x.metatype) = "type" from by kernel_rfl, isSubtype_type]; kernel_rfl
    intro h' g'' T'' F'' N'' K'' X'' P'' D''
    refine wpAny_mono (Q := fun f s' => f = .ret .none ∧ ∃ tk', s' = { s with heap := h', toks := tk' }) ?_ (fun f s' hf => ?_) (fun _ _ x => x)
    · k_steps
    · obtain ⟨rfl, tk', rfl⟩ := hf
      exact leaveS0_ F'' N'' T'' (fun F N => hQn hr _ _ F N)
end Mine
end

section
-- part: Told
open PySem PySem.W PyProof.Rows PySem.Calls
set_option maxRecDepth 100000
namespace Mine
def figsN (n : Nat) : List Int := if h : n = 0 then [] else ((n % 64 : Nat) + 64 : Int) :: figsN (n / 64)
termination_by n
decreasing_by omega
theorem figsN_zero : figsN 0 = [] := by rw [figsN]; rfl
theorem figsN_pos {n : Nat} (h : n ≠ 0) : figsN n = ((n % 64 : Nat) + 64 : Int) :: figsN (n / 64) := by rw [figsN]; simp [h]
theorem figsN_len : ∀ (k n : Nat), n < 64 ^ k → (figsN n).length ≤ k
  | 0, n, h => by
    have : n = 0 := by simpa using h
    subst this; rw [figsN_zero]; simp
  | k + 1, n, h => by
    by_cases hn : n = 0
    · subst hn; rw [figsN_zero]; simp
    · rw [figsN_pos hn, List.length_cons]
      have := figsN_len k (n / 64) (by rw [Nat.pow_succ] at h; omega)
      omega
local macro_rules | `(tactic| walk_at "eval ListComp") => `(tactic| refine Stop.intro ?_)
def figures (X K : Nat) : List Int := ((X % 64 : Nat) : Int) :: figsN (X / 64) ++ List.replicate (K % 3) 64
theorem news_tok {h₀ h : Heap} {L a : Addr} {ys : List Value} {v : Int} {t : Tok} {n : Nat} {r : List (Addr × Obj)} (N : News h₀ L h ((a, listOf (ys.toArray.push (.int v t)) n) :: r)) :
    ∃ t' : Tok, News h₀ L h ((a, listOf (ys ++ [Value.int v t']).toArray n) :: r) := ⟨t, by simpa using N⟩
theorem rep_flat (n : Nat) : (List.replicate n [(64 : Int)]).flatten = List.replicate n 64 := by
  induction n with
  | zero => rfl
  | succ n ih => rw [List.replicate_succ, List.flatten_cons, ih, List.replicate_succ]; rfl
def told (X K : Nat) : List Int := List.map (fun k' : Int => (figures X K).reverse.getD k'.toNat 0 + 128 * ((k' + (K : Int)).fdiv 2).fmod 2) (rangeKs 0 (((figures X K).reverse.length : Int) - 0).toNat)
theorem off1 {D : Addr} : ∀ {l : List (Addr × Obj)}, LCg.Off1 D l → ∀ p ∈ l, p.1 ≠ D
  | [], _, _, h => nomatch h
  | _ :: _, x, p, h => by
    rcases List.mem_cons.mp h with rfl | h
    · exact x.1
    · exact off1 x.2 p h
theorem rev_comp (fs : List Int) : List.map (fun k' : Int => fs.getD ((fs.length : Int) - 1 - k').toNat 0) (rangeKs 0 ((fs.length : Int) - 0).toNat) = fs.reverse := by
  have e : ((fs.length : Int) - 0).toNat = fs.length := by omega
  rw [e]
  refine List.ext_getElem (by simp [rangeKs]) fun i h1 h2 => ?_
  have hi : i < fs.length := by simpa [rangeKs] using h1
  simp only [rangeKs, List.getElem_map, List.getElem_range, List.getElem_reverse]
  have e2 : ((fs.length : Int) - 1 - (0 + (i : Int))).toNat = fs.length - 1 - i := by omega
  rw [e2, List.getD_eq_getElem?_getD, List.getElem?_eq_getElem (by omega)]
  rfl
theorem it_ints {prog : Program} {w : World} {A : Around} {E : Value → Shared → Prop} {s : Shared} {value slice : PySem.Expr} {l : Addr} {vs : List Value} {ns : List Int} {k : Int} {u : Tok} {Q : Value → Shared → Prop}
    (hl : s.heap.IsList l vs.toArray) (hi : IntsAre vs ns) (h0 : 0 ≤ k) (hk : k < (ns.length : Int)) (hb : k < 2 ^ 63) (h : ∀ t, Q (.int (ns.getD k.toNat 0) t) s)
    (hs : subscripted slice false (.ref l) (.int k u) = operate [.ref l, .int k u] (getItem (.ref l) (.int k u)) := by with_unfolding_all rfl) :
    wpAny (model prog w) A (subscriptTail value slice (.ref l) (.int k u)) Q E s := by
  have hx : ns[k.toNat]? = some (ns.getD k.toNat 0) := by
    rw [List.getD_eq_getElem?_getD, List.getElem?_eq_getElem (by omega)]; rfl
  obtain ⟨t, hv⟩ := hi.get _ _ hx
  exact tail_any hl.typeIs slot_list_getitem.lookup (wpAny_getItem_list hl h0 hb (by simpa using hv) (h t)) hs
local macro_rules | `(tactic| walk_at "subscriptTail Name Name ref int") => `(tactic| (refine it_ints (by is_list) (by assumption) (by omega) (by omega) (by omega) ?_; intro t'))
structure TS where
  left : Nat
  ys : List Value
  fs : List Int
  n : Nat
  tl : Tok
local macro_rules | `(tactic| walk_at "exec While Compare cons nil") => `(tactic| refine Stop.intro ?_)

set_option maxHeartbeats 8000000 in
theorem told_call {w : World} {A A₀ : Around} {E : Value → Shared → Prop} {s : Shared} {base h₀ : Heap} {outer : List Env} {env : Env} {L : Addr} {m : Str → Option Value} {news : List (Addr × Obj)} {X K : Nat} {tx tk₀ : Tok}
    {mean : ExcName → Option Value} {mg mb : Str → Option Value} {Q : Value → Shared → Prop}
    (B : Below A₀ base outer h₀) (F : Fr h₀ L s.heap m) (X₀ : (hd.heap_39 w.params).In h₀)
    (N : News h₀ L s.heap news)
    (T : Top hd.view_39 (looseW hd.view_39 []) mean mg mb h₀)
    (hA : A.frames = some (env :: outer)) (hf : env.frame = some L) (hke : env.scope.kind = .function) (hroom : A.depth < recursionLimit) (hh : A.handled = none)
    (hx1 : X < 10 ^ 40) (hk1 : K < 64)
    (hQ : ∀ D ys c h' tk, Fr h₀ L h' m → News h₀ L h' ((D, listOf ys.toArray c) :: news) → (∀ p ∈ news, p.1 ≠ D) → IntsAre ys (told X K) → Q (.ref D) { s with heap := h', toks := tk }) :
    wpAny (model PySem.Challenge.rw_xg0002_01.row.prog w) A (call (.ref 26) [.int (X : Int) tx, .int (K : Int) tk₀]) Q E s := by
  w_top off
  revert X₀
  k_fill
  intro X₀
  obtain ⟨ahd, adp, afr, ags, aun⟩ := A
  obtain rfl : ahd = none := hh
  refine wpAny_call ?_
  k_dflt (refine' code_defC (binds := [(Str.ofString "number", Value.int (X : Int) tx), (Str.ofString "turn", Value.int (K : Int) tk₀)]) B F X₀ N T hA hf hke ?k6 ?k7 hroom ?k9 ?kB ?kD ?_ ?c2 ?c3 ?c4; (case k6 => k_is); (case k7 => k_is); (case k9 => exact BindsTo.of_eq rfl); (case kB => exact rfl); (case kD => decide +kernel); (case c2 => exact rfl); (case c3 => exact rfl); (case c4 => exact rfl); k_whole; intro g' L' h' tk' cells' FG' F' N' Y' B' X' T' l1; k_cells Y'; (try simp only [List.cons_append, List.nil_append] at N'); (try dsimp only))
  have hMk : KstMark := kstMark
  have l2 : ∀ p ∈ news, p.1 < L' + 1 := fun p hp => Nat.lt_succ_of_lt (l1 p hp)
  have l3 : ∀ p ∈ news, p.1 < L' + 1 + 1 := fun p hp => Nat.lt_succ_of_lt (l2 p hp)
  have l4 : ∀ p ∈ news, p.1 < L' + 1 + 1 + 1 := fun p hp => Nat.lt_succ_of_lt (l3 p hp)
  k_unmd
  k_fold
  k_steps
  unfold Stop
  rename_i oF o2 oT dF d2 dT lD hA1 lD1 hA2 oG dG hA3 F' N'
  obtain ⟨tl, F'⟩ := fr_tok F'
  have e1 : (X : Int).fdiv 64 = ((X / 64 : Nat) : Int) := by rw [Int.fdiv_eq_ediv_of_nonneg _ (by decide)]; rfl
  have e2 : (X : Int).fmod 64 = ((X % 64 : Nat) : Int) := by rw [Int.fmod_eq_emod_of_nonneg _ (by decide)]; rfl
  rw [e1] at F'
  rw [e2] at N'
  have hX : X / 64 < 64 ^ 22 := by
    have h2 : (10 : Nat) ^ 40 ≤ 64 ^ 22 * 64 := by decide
    omega
  have hlen := figsN_len 22 _ hX
  refine ksw_while (σ := TS) (fun c => (lD, listOf c.ys.toArray c.n) :: (L' + 1 + 1 + 1, oF) :: (L' + 1 + 1, oG) :: (L' + 1, oT) :: news)
      (fun c => [(Str.ofString "left", .int (c.left : Int) c.tl)]) (fun _ => True) []
      (fun c => IntsAre c.ys c.fs ∧ c.fs ++ figsN c.left = ((X % 64 : Nat) : Int) :: figsN (X / 64))
      (fun c => c.left) ⟨X / 64, [Value.int ((X % 64 : Nat) : Int) (tk' + 1)], [((X % 64 : Nat) : Int)], 0, tl⟩ F' N' trivial ?_ ?_ ?_
  · intro p hp
    rcases List.mem_cons.mp hp with rfl | hp
    · rfl
    · cases hp
  · exact ⟨.cons _ _ .nil, rfl⟩
  · intro c u h₁ tk₁ _ hP F' N'
    obtain ⟨p1, p2⟩ := hP
    have p3 : c.fs.length + (figsN c.left).length ≤ 23 := by
      have := congrArg List.length p2
      rw [List.length_append, List.length_cons] at this
      omega
    have p4 := p1.length
    k_steps
    · rename Fr _ _ _ _ => F'
      rename News _ _ _ _ => N'
      have hpos : c.left ≠ 0 := by omega
      have e3 : (c.left : Int).fdiv 64 = ((c.left / 64 : Nat) : Int) := by rw [Int.fdiv_eq_ediv_of_nonneg _ (by decide)]; rfl
      have e4 : (c.left : Int).fmod 64 = ((c.left % 64 : Nat) : Int) := by rw [Int.fmod_eq_emod_of_nonneg _ (by decide)]; rfl
      rw [e3] at F'
      rw [e4] at N'
      obtain ⟨tl', F'⟩ := fr_tok F'
      obtain ⟨ta, N'⟩ := news_tok N'
      refine ksw_end ⟨c.left / 64, c.ys ++ [Value.int (((c.left % 64 : Nat) : Int) + 64) ta], c.fs ++ [((c.left % 64 : Nat) : Int) + 64], c.n + 1, tl'⟩ F' N' ?_ trivial ?_ ?_ ?_ (by show c.left / 64 < c.left; omega)
      · intro p hp
        simpa using hp
      · intro p hp
        rcases List.mem_cons.mp hp with rfl | hp
        · rfl
        · cases hp
      · intro z hz _
        have z1 := hz _ (.head _)
        dsimp only at z1
        simp only [if_neg z1]
        unfold kstB kstB
        simp [z1]
      · refine ⟨IntsAre.append p1 (.cons _ _ .nil), ?_⟩
        show (c.fs ++ [_]) ++ figsN (c.left / 64) = _
        rw [← p2, figsN_pos hpos]
        simp
    · unfold Stop
      rename_i lz _ _ z1 _ _ z2 z3 z4 z5 z6 z7 z8 lW ws _ hI lW1 _ oH F' N' dH
      have hl0 : c.left = 0 := by omega
      have hfs : c.fs ++ (List.replicate ((K : Int).fmod 3).toNat [(64 : Int)]).flatten = figures X K := by
        have e5 : ((K : Int).fmod 3).toNat = K % 3 := by rw [Int.fmod_eq_emod_of_nonneg _ (by decide)]; omega
        rw [hl0, figsN_zero, List.append_nil] at p2
        rw [e5, p2, figures, rep_flat]
      rw [hfs] at hI
      have hlf : (figures X K).length ≤ 25 ∧ 0 < (figures X K).length := by
        unfold figures
        rw [List.length_append, List.length_cons, List.length_replicate]
        omega
      have hlw := hI.length
      have N' : News g' L' _ ((lW, listOf ws.toArray 0) :: (L' + 1 + 1 + 1, oF) :: (L' + 1 + 1, oH) :: (L' + 1, oT) :: news) := fun p hp => N' p (by
        simp only [List.mem_cons] at hp ⊢
        rcases hp with h | h | h | h | h <;> simp [h])
      generalize hfg : figures X K = fs at *
      clear hfs hX hx1 hlen e1 e2 p1 p2 p3 p4 lz hl0 lD1 z1 z8 z2 z4 z5 z6 z7
      k_dflt (refine LCg.ListComp_U (F₀ := by k_asm) (by with_unfolding_all rfl) (by decide) (by rfl) (by decide) (by rfl) ?_)
      k_steps
      unfold Stop
      rename_i _ ys hI8 hL8 lF _ _ o1 _ oI F' N' dI
      rw [rev_comp] at hI8 hL8
      have hlr : fs.reverse.length = fs.length := List.length_reverse
      rw [hlr] at hL8
      generalize hrg : fs.reverse = rs at *
      clear l1 l2 l3 l4 lW1 o1 hlw hI
      k_dflt (refine LCg.ListComp_U (F₀ := by k_asm) (by with_unfolding_all rfl) (by decide) (by rfl) (by decide) (by rfl) ?_)
      k_steps
      rename_i hY _ lZ _ _ _ _ o2' kF kN _ _
      refine hQ lZ ys ys.length _ _ kF (fun p hp => kN p (by
        simp only [List.mem_cons] at hp ⊢
        rcases hp with h | h <;> simp [h])) (off1 o2'.2.2.2.2.2) ?_
      unfold told
      rw [hfg, hrg]
      exact hY
end Mine
end

section
-- part: Pure
open PySem PySem.W
namespace Mine
/-- six figures a step -/
def fold6 (v : Int) (l : List Int) : Int := l.foldl (fun a c => a * 64 + c % 64) v
theorem fold6_app (v : Int) (a b : List Int) : fold6 v (a ++ b) = fold6 (fold6 v a) b := by
  unfold fold6; rw [List.foldl_append]
def Goes (l : List Int) : Prop := ∀ c ∈ l, c / 64 % 2 = 1
theorem rdGo_run {f : Int} {rest : List Int} (hf : f / 64 % 2 = 0) : ∀ (cs : List Int) (v b : Int) (n : Nat), b / 64 % 2 = 1 → Goes cs →
    rdGo v b (cs ++ f :: rest) n = some (fold6 v (cs ++ [f]), n + cs.length + 1)
  | [], v, b, n, hb, _ => by
    rw [List.nil_append, rdGo, if_neg (by omega), rdGo_done hf]
    simp [fold6]
  | c :: cs, v, b, n, hb, hc => by
    rw [List.cons_append, rdGo, if_neg (by omega), rdGo_run hf cs _ _ _ (hc c (.head _)) fun x hx => hc x (.tail _ hx)]
    simp only [fold6, List.cons_append, List.foldl_cons, List.length_cons, Option.some.injEq, Prod.mk.injEq, true_and]
    omega
theorem rd_run {f : Int} {rest : List Int} (hf : f / 64 % 2 = 0) {cs : List Int} (hc : Goes cs) :
    rd (cs ++ f :: rest) = some (fold6 0 (cs ++ [f]), cs.length + 1) := by
  cases cs with
  | nil =>
    rw [List.nil_append, rd, rdGo_done hf]
    simp [fold6]
  | cons c cs =>
    rw [List.cons_append, rd, rdGo_run hf cs _ _ _ (hc c (.head _)) fun x hx => hc x (.tail _ hx)]
    simp only [fold6, List.cons_append, List.foldl_cons, List.length_cons, Option.some.injEq, Prod.mk.injEq]
    refine ⟨by rw [Int.zero_mul, Int.zero_add], by omega⟩
theorem rdGo_none : ∀ (cs : List Int) (v b : Int) (n : Nat), b / 64 % 2 = 1 → Goes cs → rdGo v b cs n = none
  | [], v, b, n, hb, _ => by rw [rdGo, if_neg (by omega)]
  | c :: cs, v, b, n, hb, hc => by
    rw [rdGo, if_neg (by omega)]
    exact rdGo_none cs _ _ _ (hc c (.head _)) fun x hx => hc x (.tail _ hx)
theorem rd_none {cs : List Int} (hc : Goes cs) : rd cs = none := by
  cases cs with
  | nil => rfl
  | cons c cs => exact rdGo_none cs _ _ _ (hc c (.head _)) fun x hx => hc x (.tail _ hx)

/-- the mark on the k-th octet -/
def mark (K : Nat) (j : Nat) (c : Int) : Int := c + 128 * ((((j : Int) + (K : Int)) / 2) % 2)
theorem mark_low (K j : Nat) (c : Int) : mark K j c % 64 = c % 64 := by unfold mark; omega
theorem mark_flag (K j : Nat) (c : Int) : mark K j c / 64 % 2 = c / 64 % 2 := by unfold mark; omega
theorem mark_range {K j : Nat} {c : Int} (h0 : 0 ≤ c) (h1 : c < 128) : 0 ≤ mark K j c ∧ mark K j c < 256 := by unfold mark; omega
def marked (K : Nat) : Nat → List Int → List Int
  | _, [] => []
  | j, c :: r => mark K j c :: marked K (j + 1) r
theorem marked_len (K : Nat) : ∀ (j : Nat) (l : List Int), (marked K j l).length = l.length
  | _, [] => rfl
  | j, c :: r => by rw [marked, List.length_cons, List.length_cons, marked_len K (j + 1) r]
theorem marked_app (K : Nat) : ∀ (j : Nat) (a b : List Int), marked K j (a ++ b) = marked K j a ++ marked K (j + a.length) b
  | j, [], b => by simp [marked]
  | j, c :: r, b => by
    rw [List.cons_append, marked, marked, marked_app K (j + 1) r b, List.cons_append, List.length_cons]
    congr 3
    omega
theorem marked_goes (K : Nat) : ∀ (j : Nat) (l : List Int), Goes l → Goes (marked K j l)
  | _, [], _ => fun _ h => nomatch h
  | j, c :: r, h => fun x hx => by
    rcases List.mem_cons.mp hx with rfl | hx
    · rw [mark_flag]; exact h c (.head _)
    · exact marked_goes K (j + 1) r (fun y hy => h y (.tail _ hy)) x hx
theorem marked_fold (K : Nat) : ∀ (j : Nat) (l : List Int) (v : Int), fold6 v (marked K j l) = fold6 v l
  | _, [], _ => rfl
  | j, c :: r, v => by
    show fold6 (v * 64 + mark K j c % 64) (marked K (j + 1) r) = fold6 (v * 64 + c % 64) r
    rw [mark_low, marked_fold K (j + 1) r]
theorem marked_range (K : Nat) : ∀ (j : Nat) (l : List Int), (∀ c ∈ l, 0 ≤ c ∧ c < 128) → ∀ c ∈ marked K j l, 0 ≤ c ∧ c < 256
  | _, [], _, _, h => nomatch h
  | j, c :: r, h, x, hx => by
    rcases List.mem_cons.mp hx with rfl | hx
    · exact mark_range (h c (.head _)).1 (h c (.head _)).2
    · exact marked_range K (j + 1) r (fun y hy => h y (.tail _ hy)) x hx
theorem marked_get (K : Nat) : ∀ (j : Nat) (l : List Int) (i : Nat), (marked K j l)[i]? = (l[i]?).map (mark K (j + i))
  | _, [], i => by simp [marked]
  | j, c :: r, 0 => by simp [marked]
  | j, c :: r, i + 1 => by
    rw [marked, List.getElem?_cons_succ, List.getElem?_cons_succ, marked_get K (j + 1) r i]
    congr 2
    omega

theorem told_eq (X K : Nat) : told X K = marked K 0 (figures X K).reverse := by
  unfold told
  generalize (figures X K).reverse = l
  have e : ((l.length : Int) - 0).toNat = l.length := by omega
  rw [e]
  apply List.ext_getElem?
  intro i
  rw [marked_get]
  simp only [rangeKs, List.map_map, List.getElem?_map, Nat.zero_add]
  by_cases hi : i < l.length
  · rw [List.getElem?_range hi, List.getElem?_eq_getElem hi]
    simp only [Option.map_some, Function.comp_apply]
    have e2 : ((0 : Int) + (i : Int)).toNat = i := by omega
    rw [e2, List.getD_eq_getElem?_getD, List.getElem?_eq_getElem hi]
    unfold mark
    rw [Int.fdiv_eq_ediv_of_nonneg _ (by decide), Int.fmod_eq_emod_of_nonneg _ (by decide)]
    simp
  · rw [List.getElem?_eq_none (by simpa using hi), List.getElem?_eq_none (by simpa using hi)]
    rfl
/-- the figures behind the lowest -/
def more (X K : Nat) : List Int := figsN (X / 64) ++ List.replicate (K % 3) 64
theorem figures_eq (X K : Nat) : figures X K = ((X % 64 : Nat) : Int) :: more X K := rfl
theorem figsN_mem (n : Nat) : ∀ c ∈ figsN n, 64 ≤ c ∧ c < 128 := by
  induction n using Nat.strongRecOn with
  | ind n ih =>
    by_cases hn : n = 0
    · subst hn; rw [figsN_zero]; intro c hc; cases hc
    · rw [figsN_pos hn]
      intro c hc
      rcases List.mem_cons.mp hc with rfl | hc
      · omega
      · exact ih (n / 64) (by omega) c hc
theorem more_mem (X K : Nat) : ∀ c ∈ more X K, 64 ≤ c ∧ c < 128 := by
  intro c hc
  rcases List.mem_append.mp hc with hc | hc
  · exact figsN_mem _ c hc
  · rw [(List.mem_replicate.mp hc).2]; decide
/-- the worth, the lowest first -/
def worth : List Int → Int
  | [] => 0
  | c :: r => worth r * 64 + c % 64
theorem fold6_rev : ∀ (l : List Int), fold6 0 l.reverse = worth l
  | [] => rfl
  | c :: r => by
    rw [List.reverse_cons, fold6_app, fold6_rev r]
    rfl
theorem worth_pads (n : Nat) : worth (List.replicate n 64) = 0 := by
  induction n with
  | zero => rfl
  | succ n ih => rw [List.replicate_succ, worth, ih]; rfl
theorem worth_figs (k n : Nat) : worth (figsN n ++ List.replicate k 64) = n := by
  induction n using Nat.strongRecOn with
  | ind n ih =>
    by_cases hn : n = 0
    · subst hn; rw [figsN_zero, List.nil_append, worth_pads]; rfl
    · rw [figsN_pos hn, List.cons_append, worth, ih (n / 64) (by omega)]
      omega
theorem told_split (X K : Nat) : ∃ cs f, told X K = cs ++ [f] ∧ Goes cs ∧ f / 64 % 2 = 0 ∧ fold6 0 (cs ++ [f]) = X := by
  refine ⟨marked K 0 (more X K).reverse, mark K (0 + (more X K).reverse.length) ((X % 64 : Nat) : Int), ?_, ?_, ?_, ?_⟩
  · rw [told_eq, figures_eq, List.reverse_cons, marked_app]; rfl
  · refine marked_goes K 0 _ fun c hc => ?_
    have := more_mem X K c (List.mem_reverse.mp hc)
    omega
  · rw [mark_flag]; omega
  · have : marked K 0 (more X K).reverse ++ [mark K (0 + (more X K).reverse.length) ((X % 64 : Nat) : Int)] = marked K 0 (figures X K).reverse := by
      rw [figures_eq, List.reverse_cons, marked_app]; rfl
    rw [this, marked_fold, fold6_rev, figures_eq, worth, more, worth_figs]
    omega
theorem told_len (X K : Nat) (hX : X < 10 ^ 40) : (told X K).length ≤ 25 ∧ 0 < (told X K).length := by
  rw [told_eq, marked_len, List.length_reverse, figures_eq, more, List.length_cons, List.length_append, List.length_replicate]
  have h2 : (10 : Nat) ^ 40 ≤ 64 ^ 22 * 64 := by decide
  have := figsN_len 22 (X / 64) (by omega)
  omega
theorem told_range (X K : Nat) : ∀ c ∈ told X K, 0 ≤ c ∧ c < 256 := by
  rw [told_eq]
  refine marked_range K 0 _ fun c hc => ?_
  rw [figures_eq] at hc
  rcases List.mem_cons.mp (List.mem_reverse.mp hc) with rfl | hc
  · omega
  · have := more_mem X K c hc; omega
theorem rd_told (X K : Nat) (rest : List Int) : rd (told X K ++ rest) = some ((X : Int), (told X K).length) := by
  obtain ⟨cs, f, e, hg, hf, hv⟩ := told_split X K
  rw [e, List.append_assoc, List.singleton_append, rd_run hf hg, hv]
  simp
theorem rd_told_cut (X K : Nat) : rd ((told X K).take ((told X K).length - 1)) = none := by
  obtain ⟨cs, f, e, hg, hf, hv⟩ := told_split X K
  rw [e]
  have : (cs ++ [f]).take ((cs ++ [f]).length - 1) = cs := by simp
  rw [this]
  exact rd_none hg

theorem row_split {rows : List Int} {i q : Nat} {z : Int} (h : rows[i]? = some z) (hq : q ≤ i) : rows.drop q = (rows.take i).drop q ++ z :: rows.drop (i + 1) := by
  obtain ⟨hi, rfl⟩ := List.getElem?_eq_some_iff.mp h
  have e : rows = rows.take i ++ rows[i] :: rows.drop (i + 1) := by
    rw [← List.drop_eq_getElem_cons hi, List.take_append_drop]
  have hl : q ≤ (rows.take i).length := by rw [List.length_take]; omega
  conv => lhs; rw [e]
  rw [List.drop_append_of_le_length hl]
theorem row_take {rows : List Int} {i q : Nat} {z : Int} (h : rows[i]? = some z) (hq : q ≤ i) : (rows.take (i + 1)).drop q = (rows.take i).drop q ++ [z] := by
  have hi : i < rows.length := (List.getElem?_eq_some_iff.mp h).1
  rw [List.take_add_one, h]
  have hl : q ≤ (rows.take i).length := by rw [List.length_take]; omega
  rw [List.drop_append_of_le_length hl]
  rfl
theorem row_len {rows : List Int} {i q : Nat} {z : Int} (h : rows[i]? = some z) : ((rows.take i).drop q).length = i - q := by
  have hi : i < rows.length := (List.getElem?_eq_some_iff.mp h).1
  rw [List.length_drop, List.length_take]
  omega
theorem fold6_one (v z : Int) (l : List Int) : fold6 v (l ++ [z]) = fold6 v l * 64 + z % 64 := by
  rw [fold6_app]; rfl
theorem fold6_bound : ∀ (l : List Int) (v : Int) (k : Nat), 0 ≤ v → v < 2 ^ (6 * k) → 0 ≤ fold6 v l ∧ fold6 v l < 2 ^ (6 * (k + l.length))
  | [], v, k, h0, h1 => ⟨h0, h1⟩
  | c :: r, v, k, h0, h1 => by
    have := fold6_bound r (v * 64 + c % 64) (k + 1) (by omega) (bits_step (by omega) (by omega) h0 h1)
    rw [List.length_cons, show k + (r.length + 1) = k + 1 + r.length by omega]
    exact this
theorem two_pow_le {a b : Nat} (h : a ≤ b) : (2 : Int) ^ a ≤ 2 ^ b := by
  rw [← kbt_cast, ← kbt_cast]
  exact Int.ofNat_le.mpr (Nat.pow_le_pow_right (by decide) h)
/-- all laid end to end -/
def octsTo (xs : List Nat) (i : Nat) : List Int := (List.range i).flatMap fun k => told (xs.getD k 0) k
theorem octsTo_zero (xs : List Nat) : octsTo xs 0 = [] := rfl
theorem octsTo_succ (xs : List Nat) (i : Nat) : octsTo xs (i + 1) = octsTo xs i ++ told (xs.getD i 0) i := by
  unfold octsTo; rw [List.range_succ, List.flatMap_append]; simp
theorem octsTo_len (xs : List Nat) (h : ∀ x ∈ xs, x < 10 ^ 40) : ∀ i, (octsTo xs i).length ≤ 25 * i
  | 0 => by rw [octsTo_zero]; simp
  | i + 1 => by
    rw [octsTo_succ, List.length_append]
    have h1 := octsTo_len xs h i
    have h2 : xs.getD i 0 < 10 ^ 40 := by
      rw [List.getD_eq_getElem?_getD]
      cases e : xs[i]? with
      | none => decide
      | some x => exact h x (List.mem_of_getElem? e)
    have h3 := (told_len (xs.getD i 0) i h2).1
    omega
theorem octsTo_range (xs : List Nat) : ∀ i, ∀ c ∈ octsTo xs i, 0 ≤ c ∧ c < 256
  | 0, c, h => by rw [octsTo_zero] at h; cases h
  | i + 1, c, h => by
    rw [octsTo_succ] at h
    rcases List.mem_append.mp h with h | h
    · exact octsTo_range xs i c h
    · exact told_range _ _ c h
theorem octsTo_pre (xs : List Nat) (i : Nat) : ∀ d, ∃ rest, octsTo xs (i + d) = octsTo xs i ++ rest
  | 0 => ⟨[], by simp⟩
  | d + 1 => by
    obtain ⟨r, e⟩ := octsTo_pre xs i d
    exact ⟨r ++ told (xs.getD (i + d) 0) (i + d), by rw [← Nat.add_assoc, octsTo_succ, e, List.append_assoc]⟩
theorem octsTo_drop (xs : List Nat) {i n : Nat} (h : i < n) : ∃ rest, (octsTo xs n).drop (octsTo xs i).length = told (xs.getD i 0) i ++ rest := by
  obtain ⟨r, e⟩ := octsTo_pre xs (i + 1) (n - (i + 1))
  have en : i + 1 + (n - (i + 1)) = n := by omega
  rw [en] at e
  refine ⟨r, ?_⟩
  rw [e, octsTo_succ, List.append_assoc, List.drop_left]
/-- each number is read -/
theorem rd_octs (xs : List Nat) {i n : Nat} (h : i < n) : rd ((octsTo xs n).drop (octsTo xs i).length) = some (((xs.getD i 0 : Nat) : Int), (told (xs.getD i 0) i).length) := by
  obtain ⟨r, e⟩ := octsTo_drop xs h
  rw [e, rd_told]
theorem rd_octs_end (xs : List Nat) (n : Nat) : rd ((octsTo xs n).drop (octsTo xs n).length) = none := by
  rw [List.drop_length]; rfl
/-- with the last octet off -/
theorem rd_cut (xs : List Nat) (h : ∀ x ∈ xs, x < 10 ^ 40) {i n : Nat} (hi : i + 1 < n) :
    rd (((octsTo xs n).take ((octsTo xs n).length - 1)).drop (octsTo xs i).length) = some (((xs.getD i 0 : Nat) : Int), (told (xs.getD i 0) i).length) := by
  obtain ⟨m, rfl⟩ : ∃ m, n = m + 1 := ⟨n - 1, by omega⟩
  have hx : xs.getD m 0 < 10 ^ 40 := by
    rw [List.getD_eq_getElem?_getD]
    cases e : xs[m]? with
    | none => decide
    | some x => exact h x (List.mem_of_getElem? e)
  have ht := (told_len (xs.getD m 0) m hx).2
  have e1 : (octsTo xs (m + 1)).take ((octsTo xs (m + 1)).length - 1) = octsTo xs m ++ (told (xs.getD m 0) m).take ((told (xs.getD m 0) m).length - 1) := by
    rw [octsTo_succ, List.length_append, List.take_append, List.take_of_length_le (by omega)]
    congr 2
    omega
  obtain ⟨r, e⟩ := octsTo_drop xs (show i < m by omega)
  have hle : (octsTo xs i).length ≤ (octsTo xs m).length := by
    obtain ⟨r', e'⟩ := octsTo_pre xs i (m - i)
    rw [show i + (m - i) = m by omega] at e'
    rw [e', List.length_append]; omega
  rw [e1, List.drop_append_of_le_length hle, e, List.append_assoc, rd_told]
theorem rd_cut_end (xs : List Nat) (h : ∀ x ∈ xs, x < 10 ^ 40) (m : Nat) :
    rd (((octsTo xs (m + 1)).take ((octsTo xs (m + 1)).length - 1)).drop (octsTo xs m).length) = none := by
  have hx : xs.getD m 0 < 10 ^ 40 := by
    rw [List.getD_eq_getElem?_getD]
    cases e : xs[m]? with
    | none => decide
    | some x => exact h x (List.mem_of_getElem? e)
  have ht := (told_len (xs.getD m 0) m hx).2
  have e1 : (octsTo xs (m + 1)).take ((octsTo xs (m + 1)).length - 1) = octsTo xs m ++ (told (xs.getD m 0) m).take ((told (xs.getD m 0) m).length - 1) := by
    rw [octsTo_succ, List.length_append, List.take_append, List.take_of_length_le (by omega)]
    congr 2
    omega
  rw [e1, List.drop_left]
  exact rd_told_cut _ _
end Mine
end

section
-- part: Loops
open PySem PySem.W PyProof.Rows PySem.Calls
namespace Mine
/-- what a turn hands on -/
def TurnEnd (h₀ : Heap) (L : Addr) (s : Shared) (I : Addr) (oI : Obj) (fixed : List (Addr × Obj)) (J : (Str → Option Value) → List (Addr × Obj) → Prop) (s₂ : Shared) : Prop :=
  ∃ h' tk m' nx, s₂ = { s with heap := h', toks := tk } ∧ Fr h₀ L h' m' ∧ News h₀ L h' ((I, oI) :: (fixed ++ nx)) ∧ (∀ p ∈ nx, p.1 ≠ I) ∧ J m' nx
def Turn (h₀ : Heap) (L : Addr) (s : Shared) (I : Addr) (oI : Obj) (fixed : List (Addr × Obj)) (J : (Str → Option Value) → List (Addr × Obj) → Prop) (Q : Flow → Shared → Prop) (f : Flow) (s₂ : Shared) : Prop :=
  match f with
  | .ret v => Q (.ret v) s₂
  | .brk => Q .next s₂
  | _ => TurnEnd h₀ L s I oI fixed J s₂
theorem Turn.next {h₀ h' : Heap} {L : Addr} {s : Shared} {I : Addr} {oI : Obj} {fixed nx : List (Addr × Obj)} {J : (Str → Option Value) → List (Addr × Obj) → Prop} {Q : Flow → Shared → Prop} {m' : Str → Option Value} {tk : Nat}
    (F : Fr h₀ L h' m') (N : News h₀ L h' ((I, oI) :: (fixed ++ nx))) (o : ∀ p ∈ nx, p.1 ≠ I) (hJ : J m' nx) : Turn h₀ L s I oI fixed J Q .next { s with heap := h', toks := tk } :=
  ⟨h', tk, m', nx, rfl, F, N, o, hJ⟩
section
variable {prog : Program} {w : World} {A : Around} {E : Value → Shared → Prop} {s : Shared} {env : Env} {h₀ : Heap} {x : Str} {body : List Stmt} {Q : Flow → Shared → Prop}

theorem rng_inv {r : Addr} {b : Int} {t u v : Tok} {n : Nat} {m₀ : Str → Option Value} {news : List (Addr × Obj)} (J : Nat → (Str → Option Value) → List (Addr × Obj) → Prop)
    (hh : A.handled = none) (hr : IsRange s.heap r 0 b 1 t u v) (hb : b = (n : Int)) (hn : n ≤ 100000) (F : Fr h₀ env.locals s.heap m₀) (N : News h₀ env.locals s.heap news) (hj : J 0 m₀ news)
    (turn : ∀ i t m₁ nx I oI h tk, i < n → J i m₁ nx → (∀ p ∈ nx, p.1 ≠ I) → Fr h₀ env.locals h (fun y => if y = x then some (.int (i : Int) t) else m₁ y) → News h₀ env.locals h ((I, oI) :: nx) →
      wpAny (model prog w) A (execs body env) (Turn h₀ env.locals { s with heap := h, toks := tk } I oI [] (J (i + 1)) Q) E { s with heap := h, toks := tk })
    (done : ∀ m₁ nx h tk, J n m₁ nx → Fr h₀ env.locals h m₁ → News h₀ env.locals h nx → Q .next { s with heap := h, toks := tk }) :
    wpAny (model prog w) A (pyIter (.ref r)) (fun it s₂ => LoopAtV prog w A h₀ env x body Q E it s₂) E s := by
  subst hb
  refine wpAny_pyIter_range hr (small_one (by decide) (by decide) (by omega) (by omega)) ?_
  have hsz : Builtin.Range.rangeSize 0 (n : Int) 1 = (n : Int) := by rw [rangeSize_nat]; omega
  have W := Walks.range (prog := prog) (w := w) hh s.heap.objs.size 0 1 n
  refine ⟨s.heap.objs.size, _, _, n, _, _, m₀, news, J, rfl, W, ?_, ?_, ?_, ?_, F.push _, (fun p hp => ⟨Heap.get?_push_of_some _ (N p hp).1, (N p hp).2⟩), hj, ?_, ?_⟩
  · intro hm
    exact absurd F.ns.lt ((List.mem_singleton.mp hm) ▸ Nat.lt_irrefl _)
  · intro b hb
    rw [List.mem_singleton.mp hb]
    exact next_is_new F
  · intro p hp hI
    exact absurd (Heap.lt_size (N p hp).1) ((List.mem_singleton.mp hI) ▸ Nat.lt_irrefl _)
  · show IsRangeIter _ _ _ _ _
    rw [hsz]
    simpa using Heap.get?_push_size _ rfl
  · rintro i v m₁ nx s₁ own ⟨h, tk, rfl⟩ hi ⟨t, rfl⟩ hJ hoff hown hget hall hst F₁ N₁
    have e1 : (0 : Int) + (i : Int) * 1 = (i : Int) := by omega
    rw [e1] at F₁
    obtain ⟨oI, hoI⟩ : ∃ oI, h.get? s.heap.objs.size = some oI := ⟨_, hst⟩
    have hown' : ∀ p ∈ own, p = (s.heap.objs.size, oI) := fun p hp => by
      have h1 := List.mem_singleton.mp (hown p hp)
      have h2 := hget p hp
      dsimp only at h2
      rw [h1, hoI] at h2
      exact Prod.ext h1 (Option.some.inj h2).symm
    have hmem : (s.heap.objs.size, oI) ∈ own := hall _ (List.mem_singleton.mpr rfl) (next_is_new F) _ hoI
    have N₂ : News h₀ env.locals h ((s.heap.objs.size, oI) :: nx) := fun p hp => by
      rcases List.mem_cons.mp hp with rfl | hp
      · exact N₁ _ (List.mem_append_left _ hmem)
      · exact N₁ _ (List.mem_append_right _ hp)
    have hoff' : ∀ p ∈ nx, p.1 ≠ s.heap.objs.size := fun p hp e => hoff p hp (List.mem_singleton.mpr e)
    refine wpAny_mono (turn i t m₁ nx _ oI h tk hi hJ hoff' F₁ N₂) (fun f s₂ q => ?_) fun _ _ e => e
    have fin : TurnEnd h₀ env.locals { s with heap := h, toks := tk } s.heap.objs.size oI [] (J (i + 1)) s₂ → LoopStepU h₀ env.locals [s.heap.objs.size] own (J (i + 1)) { s with heap := h, toks := tk } .next s₂ := by
      rintro ⟨h', tk', m', nx', e, F', N', o', hJ'⟩
      refine ⟨rfl, h', tk', m', nx', e, F', fun p hp => ?_, fun p hp hq => o' p hp (List.mem_singleton.mp hq), hJ'⟩
      rcases List.mem_append.mp hp with hp | hp
      · rw [hown' p hp]; exact N' _ (.head _)
      · exact N' _ (.tail _ hp)
    cases f with
    | ret v => exact .ret q
    | brk => exact .brk q
    | next => exact .next (fin q)
    | cont => exact .cont (fin q)
  · intro h' tk m' nx F' N' _ hJ
    exact done m' nx h' tk hJ F' N'

theorem lst_inv {l : Addr} {vs : List Value} {ns : List Int} {c : Nat} {m₀ : Str → Option Value} {news : List (Addr × Obj)} (J : Nat → (Str → Option Value) → List (Addr × Obj) → Prop)
    (hh : A.handled = none) (hi : IntsAre vs ns) (F : Fr h₀ env.locals s.heap m₀) (N : News h₀ env.locals s.heap ((l, listOf vs.toArray c) :: news)) (hj : J 0 m₀ news)
    (turn : ∀ i z t m₁ nx I oI h tk, ns[i]? = some z → J i m₁ nx → I ≠ l → (∀ p ∈ nx, p.1 ≠ I) → Fr h₀ env.locals h (fun y => if y = x then some (.int z t) else m₁ y) → News h₀ env.locals h ((I, oI) :: (l, listOf vs.toArray c) :: nx) →
      wpAny (model prog w) A (execs body env) (Turn h₀ env.locals { s with heap := h, toks := tk } I oI [(l, listOf vs.toArray c)] (J (i + 1)) Q) E { s with heap := h, toks := tk })
    (done : ∀ m₁ nx h tk, J ns.length m₁ nx → Fr h₀ env.locals h m₁ → News h₀ env.locals h ((l, listOf vs.toArray c) :: nx) → Q .next { s with heap := h, toks := tk }) :
    wpAny (model prog w) A (pyIter (.ref l)) (fun it s₂ => LoopAtV prog w A h₀ env x body Q E it s₂) E s := by
  have Nl := N _ (.head _)
  have hol : s.heap.get? l = some (listOf vs.toArray c) := Nl.1
  have hls : s.heap.IsList l vs.toArray := ⟨_, hol, rfl, _, rfl⟩
  have hne : l ≠ s.heap.objs.size := Nat.ne_of_lt (Heap.lt_size hol)
  refine wpAny_pyIter_list hls ?_
  have W := Walks.list (prog := prog) (w := w) hh s.heap.objs.size l hne vs.toArray
  have hlen : vs.toArray.size = ns.length := by simp [hi.length]
  rw [hlen] at W
  refine ⟨s.heap.objs.size, _, _, ns.length, _, _, m₀, (l, listOf vs.toArray c) :: news, (fun i m nx' => ∃ nx, nx' = (l, listOf vs.toArray c) :: nx ∧ J i m nx), rfl, W, ?_, ?_, ?_, ⟨⟨_, Heap.get?_push_size _ rfl, rfl, rfl⟩, hls.at fun o e => Heap.get?_push_of_some _ e⟩, F.push _, (fun p hp => ⟨Heap.get?_push_of_some _ (N p hp).1, (N p hp).2⟩), ⟨news, rfl, hj⟩, ?_, ?_⟩
  · intro hm
    rcases List.mem_cons.mp hm with e | hm
    · exact absurd F.ns.lt (e ▸ Nat.lt_irrefl _)
    · exact Nl.2.1 (List.mem_singleton.mp hm).symm
  · intro b hb
    rw [List.mem_singleton.mp hb]
    exact next_is_new F
  · intro p hp hI
    exact absurd (Heap.lt_size (N p hp).1) ((List.mem_singleton.mp hI) ▸ Nat.lt_irrefl _)
  · rintro i v m₁ nx1 s₁ own ⟨h, tk, rfl⟩ hi' hP ⟨nx, rfl, hJ⟩ hoff hown hget hall hst F₁ N₁
    have hlt : i < ns.length := hi'
    obtain ⟨z, hz⟩ : ∃ z, ns[i]? = some z := ⟨_, List.getElem?_eq_getElem hlt⟩
    obtain ⟨t, hx⟩ := hi.get i z hz
    have hv : v = .int z t := by
      have hP' : vs[i]? = some v := by simpa using hP
      rw [hx] at hP'; exact (Option.some.inj hP').symm
    subst hv
    obtain ⟨oI, hoI, _⟩ := hst.1
    have hlo : h.get? l = some (listOf vs.toArray c) := (N₁ _ (List.mem_append_right _ (.head _))).1
    have hown' : ∀ p ∈ own, p = (s.heap.objs.size, oI) ∨ p = (l, listOf vs.toArray c) := fun p hp => by
      have h2 := hget p hp
      dsimp only at h2
      rcases List.mem_cons.mp (hown p hp) with h1 | h1
      · left
        rw [h1, hoI] at h2
        exact Prod.ext h1 (Option.some.inj h2).symm
      · right
        have h1 := List.mem_singleton.mp h1
        rw [h1, hlo] at h2
        exact Prod.ext h1 (Option.some.inj h2).symm
    have hmem : (s.heap.objs.size, oI) ∈ own := hall _ (.head _) (next_is_new F) _ hoI
    have N₂ : News h₀ env.locals h ((s.heap.objs.size, oI) :: (l, listOf vs.toArray c) :: nx) := fun p hp => by
      rcases List.mem_cons.mp hp with rfl | hp
      · exact N₁ _ (List.mem_append_left _ hmem)
      · exact N₁ _ (List.mem_append_right _ hp)
    have hoff' : ∀ p ∈ nx, p.1 ≠ s.heap.objs.size := fun p hp e => hoff p (.tail _ hp) (List.mem_singleton.mpr e)
    refine wpAny_mono (turn i z t m₁ nx _ oI h tk hz hJ (Ne.symm hne) hoff' F₁ N₂) (fun f s₂ q => ?_) fun _ _ e => e
    have fin : TurnEnd h₀ env.locals { s with heap := h, toks := tk } s.heap.objs.size oI [(l, listOf vs.toArray c)] (J (i + 1)) s₂ →
        LoopStepU h₀ env.locals [s.heap.objs.size] own (fun m nx' => ∃ nx, nx' = (l, listOf vs.toArray c) :: nx ∧ J (i + 1) m nx) { s with heap := h, toks := tk } .next s₂ := by
      rintro ⟨h', tk', m', nx', e, F', N', o', hJ'⟩
      refine ⟨rfl, h', tk', m', (l, listOf vs.toArray c) :: nx', e, F', fun p hp => ?_, fun p hp hq => ?_, nx', rfl, hJ'⟩
      · rcases List.mem_append.mp hp with hp | hp
        · rcases hown' p hp with rfl | rfl
          · exact N' _ (.head _)
          · exact N' _ (.tail _ (.head _))
        · exact N' _ (.tail _ hp)
      · have hq := List.mem_singleton.mp hq
        rcases List.mem_cons.mp hp with rfl | hp
        · exact hne hq
        · exact o' p hp hq
    cases f with
    | ret v => exact .ret q
    | brk => exact .brk q
    | next => exact .next (fin q)
    | cont => exact .cont (fin q)
  · rintro h' tk m' nx1 F' N' _ ⟨nx, rfl, hJ⟩
    exact done m' nx h' tk hJ F' N'
end
end Mine
end

section
-- part: Law
open PySem PySem.W PyProof.Rows PySem.Calls
set_option maxRecDepth 100000
namespace Mine
local macro_rules | `(tactic| walk_at "exec For Name Call cons nil") => `(tactic| refine Stop.intro ?_)
local macro_rules | `(tactic| walk_at "exec For Name Name cons nil") => `(tactic| refine Stop.intro ?_)
local macro_rules | `(tactic| walk_at "call ref") => `(tactic| refine Stop.intro ?_)
local macro_rules | `(tactic| walk_at "call builtin:iter") => `(tactic| refine Stop.intro ?_)
local macro_rules | `(tactic| walk_at "exec Assign cons ListComp") => `(tactic| refine Stop.intro ?_)
local macro_rules | `(tactic| walk_at "pyIter ref") => `(tactic| refine Stop.intro ?_)
local macro_rules | `(tactic| walk_at "Turn") => `(tactic| refine Stop.intro ?_)
local macro_rules | `(tactic| walk_at "subscriptTail Name Name ref int") => `(tactic| (refine it_ints (by is_list) (by assumption) (by omega) (by omega) (by omega) ?_; intro t'))
theorem map_getD (xs : List Nat) (i : Nat) : (List.map (fun n : Nat => (n : Int)) xs).getD ((i : Int)).toNat 0 = ((xs.getD i 0 : Nat) : Int) := by
  rw [List.getD_eq_getElem?_getD, List.getElem?_map, List.getD_eq_getElem?_getD, Int.toNat_natCast]
  cases xs[i]? <;> rfl
theorem map_get (xs : List Nat) {i : Nat} {z : Int} (h : (List.map (fun n : Nat => (n : Int)) xs)[i]? = some z) : z = ((xs.getD i 0 : Nat) : Int) ∧ i < xs.length := by
  rw [List.getElem?_map] at h
  rw [List.getD_eq_getElem?_getD]
  cases e : xs[i]? with
  | none => rw [e] at h; cases h
  | some x =>
    rw [e] at h
    exact ⟨(Option.some.inj h).symm, (List.getElem?_eq_some_iff.mp e).1⟩
def numsOf (ns : List Int) : List Nat := ns.map fun k => k.natAbs % 10 ^ 40
theorem numsOf_len (ns : List Int) : (numsOf ns).length = ns.length := List.length_map _
theorem numsOf_lt (ns : List Int) : ∀ x ∈ numsOf ns, x < 10 ^ 40 := fun x hx => by
  obtain ⟨k, _, rfl⟩ := List.mem_map.mp hx
  exact Nat.mod_lt _ (by decide)
theorem nums_eq (ns : List Int) : List.map (fun k' : Int => (if k' < 0 then -k' else k').fmod (10 ^ Int.toNat 40)) ns = (numsOf ns).map fun n : Nat => (n : Int) := by
  unfold numsOf
  rw [List.map_map]
  refine List.map_congr_left fun k _ => ?_
  have e : (if k < 0 then -k else k) = (k.natAbs : Int) := by split <;> omega
  rw [e, Int.fmod_eq_emod_of_nonneg _ (by decide)]
  show (k.natAbs : Int) % (10 ^ 40) = ((k.natAbs % 10 ^ 40 : Nat) : Int)
  rw [Int.natCast_emod]
  rfl
theorem fr_ps {h₀ h : Heap} {L : Addr} {x : Str} {v : Value} {m : Str → Option Value} {ps : List (Str × Value)} (hp : ∀ p ∈ ps, m p.1 = some p.2)
    (F : Fr h₀ L h (fun y => if y = x then some v else m y)) : Fr h₀ L h (fun y => if y = x then some v else kstB m ps y) := by
  have e : (fun y => if y = x then some v else kstB m ps y) = fun y => if y = x then some v else m y := by
    funext y
    rw [kstB_eq hp fun _ => rfl]
  rw [e]; exact F
theorem fr_pd {h₀ h : Heap} {L : Addr} {m : Str → Option Value} {ps : List (Str × Value)} (hp : ∀ p ∈ ps, m p.1 = some p.2)
    (F : Fr h₀ L h m) : Fr h₀ L h (kstB m ps) := by
  have e : kstB m ps = m := by
    funext y
    rw [kstB_eq hp fun _ => rfl]
  rw [e]; exact F
set_option maxHeartbeats 8000000 in
theorem law_holds : PySem.Challenge.rw_xg0002_01.Holds := hd (by
  k_go0
  rename_i w s₀ s₁ mg mb G Y fa o pm doc kV ho hg KX XX V GL T BB TE TW w9 w8 MM cdA w6 hcd ns hs hlay0 hLay hr1 hl2 w4 w3 sl svs w5 hL ra wl r0 hI hr hc1 hc2 K0 hD h₁ F N0
  clear hcd hD
  have hns : ns.length ≤ 63 := by omega
  have hMk : KstMark := kstMark
  k_unmd
  k_fold
  k_steps
  unfold Stop
  k_dflt (refine LCg.Assign_ListComp_U (F₀ := by k_asm) (by rfl) (by with_unfolding_all rfl) (by rfl) (by decide) (by rfl) (by decide) (by rfl) (by rfl) (by rfl) ?_)
  k_steps
  k_dflt (refine LCg.CompSrc.base (by rfl) (by k_asm) (by k_asm) hL (by rw [PySem.sizeLine_eq, List.size_toArray, hI.length]; omega) ?_)
  intro g'
  (refine' kcf_list _ hI (fun k' t' I' oI' C' oC' D' m' ys' h' tk' E' hk' hC' hx' F' N' off' ne' hMark' => ?_) ?_)
  all_goals (try (simp only [LCg.Off3] at off'))
  kcf_last
  · k_steps
  k_steps
  unfold Stop
  rename_i hI8 hL8 Dn _ _ _ lO _ lD1 _ F' N'
  rename List Value => ysN
  rw [nums_eq] at hI8 hL8
  rw [List.length_map, numsOf_len] at hL8
  have hlt := numsOf_lt ns
  have hnl := numsOf_len ns
  generalize numsOf ns = xs at *
  have hn40 : xs.length ≤ 63 := by omega
  k_unmd
  k_fold
  (with_unfolding_all refine' For_invVF F' ?k1 ?k2 ?_; (case k1 => exact rfl); (case k2 => exact rfl))
  k_steps
  unfold Stop
  rename_i hR F1 N1 _
  refine rng_inv (n := xs.length) (fun i m nx => ∃ aO ys c, nx = [(aO, listOf ys.toArray c), (Dn, LCg.lst ysN)] ∧ IntsAre ys (octsTo xs i) ∧ aO ≠ Dn ∧
    ∀ p ∈ [(Str.ofString "octets", Value.ref aO), (Str.ofString "numbers", Value.ref Dn), (Str.ofString "script", Value.ref sl)], m p.1 = some p.2) rfl hR (by rw [List.length_map]) (by omega) F1 N1
    ⟨lO, [], 0, rfl, .nil, (Nat.ne_of_gt lD1), by kst_all⟩ ?_ ?_
  · rintro i t m₁ nx I oI h tk hi ⟨aO, ys, c, rfl, hY, hne, hm⟩ hoff F' N'
    have F' := fr_ps hm F'
    have hlo := octsTo_len xs hlt i
    have hly := hY.length
    have hx : (xs.getD i 0) < 10 ^ 40 := by
      rw [List.getD_eq_getElem?_getD, List.getElem?_eq_getElem hi]
      exact hlt _ (List.getElem_mem hi)
    have hlm : (List.map (fun n : Nat => (n : Int)) xs).length = xs.length := List.length_map _
    k_steps
    unfold Stop
    rw [map_getD]
    have htl := (told_len _ i hx).1
    refine told_call K0 F' KX N' T (Around.frames_deeper K0.stack) rfl rfl (by k_room) rfl hx (by omega) ?_
    intro D yt ct h' tk' F' N' offD hyt
    have hlt9 := hyt.length
    k_steps
    unfold Stop
    rename_i D2 ws _ _ _ hws l9 _ F9 N9
    refine Turn.next (nx := [(D2, listOf ws.toArray 0), (Dn, LCg.lst ysN)]) F9 (fun p hp => N9 p (by
      simp only [List.mem_cons, List.nil_append, List.not_mem_nil, or_false] at hp ⊢
      rcases hp with h | h | h <;> simp [h])) ?_ ⟨D2, ws, 0, rfl, ?_, Nat.ne_of_gt l9.2.2.2, by kst_all⟩
    · intro p hp
      simp only [List.mem_cons, List.not_mem_nil, or_false] at hp
      rcases hp with rfl | rfl
      · exact Nat.ne_of_gt l9.2.1
      · exact hoff _ (by simp)
    · rw [octsTo_succ]; exact hws
  · rintro m₁ nx h tk ⟨aO, ys, c, rfl, hY, hne, hm⟩ F' N'
    have F' := fr_pd hm F'
    have hlo := octsTo_len xs hlt xs.length
    have hly := hY.length
    k_steps
    unfold Stop
    refine nx_iter F' N' ⟨_, (N' _ (.head _)).1, rfl, _, rfl⟩ ?_
    intro it h' F' N' lI
    have hitO : aO ≠ it := Nat.ne_of_lt (lI _ (.head _))
    have hitD : Dn ≠ it := Nat.ne_of_lt (lI _ (.tail _ (.head _)))
    k_steps
    unfold Stop
    rename_i F' N'
    k_unmd
    k_fold
    (with_unfolding_all refine' For_invVF F' ?k1 ?k2 ?_; (case k1 => exact rfl); (case k2 => exact rfl))
    k_steps
    unfold Stop
    have hob := octsTo_range xs xs.length
    refine lst_inv (l := Dn) (c := ysN.length) (fun i m nx => nx = [(it, itObj aO (octsTo xs i).length), (aO, listOf ys.toArray c)] ∧
      ∀ p ∈ [(Str.ofString "octets", Value.ref aO), (Str.ofString "numbers", Value.ref Dn), (Str.ofString "script", Value.ref sl), (Str.ofString "feed", Value.ref it)], m p.1 = some p.2) rfl hI8 F'
      (news := [(it, itObj aO 0), (aO, listOf ys.toArray c)]) (fun p hp => N' p (by
        simp only [List.mem_cons, List.not_mem_nil, or_false] at hp ⊢
        rcases hp with h | h | h <;> simp [h])) ⟨rfl, by kst_all⟩ ?_ ?_
    · rintro i z t m₁ nx I oI h tk hz ⟨rfl, hm⟩ hIl hoff F' N'
      have F' := fr_ps hm F'
      obtain ⟨rfl, hi⟩ := map_get xs hz
      have hoff' : ∀ p ∈ [(it, itObj aO (octsTo xs (i + 1)).length), (aO, listOf ys.toArray c)], p.1 ≠ I := by
        intro p hp
        simp only [List.mem_cons, List.not_mem_nil, or_false] at hp
        rcases hp with rfl | rfl
        · exact hoff (it, itObj aO (octsTo xs i).length) (.head _)
        · exact hoff (aO, listOf ys.toArray c) (.tail _ (.head _))
      k_steps
      unfold Stop
      refine read_call (l := aO) (n := c) (i := (octsTo xs i).length) (news := [(I, oI), (Dn, LCg.lst ysN)]) K0 F' KX (fun p hp => N' p (by
        simp only [List.mem_cons, List.not_mem_nil, or_false] at hp ⊢
        rcases hp with h | h | h | h <;> simp [h])) ?_ T (Around.frames_deeper K0.stack) rfl (by (simp only [depth_deeper, depth_caller]; decide)) rfl hY hob (by omega) ?_ ?_
      · intro p hp
        simp only [List.mem_cons, List.not_mem_nil, or_false] at hp
        rcases hp with rfl | rfl
        · exact (hoff (it, _) (.head _)).symm
        · exact hitD
      · intro v k hr h' tk t' F' N'
        rw [rd_octs xs hi] at hr
        obtain ⟨rfl, rfl⟩ : ((xs.getD i 0 : Nat) : Int) = v ∧ (told (xs.getD i 0) i).length = k := by
          have := Option.some.inj hr
          exact ⟨congrArg Prod.fst this, congrArg Prod.snd this⟩
        k_steps
        · rename ((xs.getD i 0 : Nat) : Int) ≠ _ => hnn
          exact absurd rfl hnn
        · unfold Stop
          refine Turn.next (nx := [(it, itObj aO (octsTo xs (i + 1)).length), (aO, listOf ys.toArray c)]) F' (fun p hp => ?_) hoff' ⟨rfl, by kst_all⟩
          rw [octsTo_succ, List.length_append] at hp
          refine N' p ?_
          simp only [List.mem_cons, List.cons_append, List.nil_append, List.not_mem_nil, or_false] at hp ⊢
          rcases hp with h | h | h | h <;> simp [h]
      · intro hr
        rw [rd_octs xs hi] at hr
        cases hr
    · rintro m₁ nx h tk ⟨rfl, hm⟩ F' N'
      have F' := fr_pd hm F'
      k_steps
      unfold Stop
      have exl : (List.map (fun n : Nat => (n : Int)) xs).length = xs.length := List.length_map _
      rw [exl] at N'
      refine read_call (l := aO) (n := c) (i := (octsTo xs xs.length).length) (news := [(Dn, LCg.lst ysN)]) K0 F' KX (fun p hp => N' p (by
        simp only [List.mem_cons, List.not_mem_nil, or_false] at hp ⊢
        rcases hp with h | h | h <;> simp [h])) ?_ T (Around.frames_deeper K0.stack) rfl (by (simp only [depth_deeper, depth_caller]; decide)) rfl hY hob (by omega) ?_ ?_
      · intro p hp
        simp only [List.mem_cons, List.not_mem_nil, or_false] at hp
        rcases hp with rfl
        exact hitD
      · intro v k hr
        rw [rd_octs_end] at hr
        cases hr
      · intro _ h' tk' F' N'
        k_steps
        unfold Stop
        rename_i _ _ D3 ws3 _ F' N' hI3 hC3 hL3 l3
        have ecut : (if ((octsTo xs xs.length).length : Int) - 1 > 0 then ((octsTo xs xs.length).length : Int) - 1 else 0).toNat = (octsTo xs xs.length).length - 1 := by split <;> omega
        rw [ecut] at hI3
        clear hC3 hL3
        have hl3 := hI3.length
        have hl3' : ((octsTo xs xs.length).take ((octsTo xs xs.length).length - 1)).length ≤ (octsTo xs xs.length).length := List.length_take_le' _ _
        have hob3 : ∀ b ∈ (octsTo xs xs.length).take ((octsTo xs xs.length).length - 1), 0 ≤ b ∧ b < 256 := fun b hb => hob b (List.mem_of_mem_take hb)
        refine nx_iter F' N' ⟨_, (N' _ (.head _)).1, rfl, _, rfl⟩ ?_
        intro it3 h' F' N' lI3
        have hit3 : D3 ≠ it3 := Nat.ne_of_lt (lI3 _ (.head _))
        have hit3D : Dn ≠ it3 := Nat.ne_of_lt (lI3 _ (.tail _ (.tail _ (.head _))))
        k_steps
        unfold Stop
        rename_i F' N'
        k_unmd
        k_fold
        (with_unfolding_all refine' For_invVF F' ?k1 ?k2 ?_; (case k1 => exact rfl); (case k2 => exact rfl))
        k_steps
        unfold Stop
        rename_i hR3 F' N' _
        refine rng_inv (n := xs.length) (fun i m nx => (i < xs.length → (it3, itObj D3 (octsTo xs i).length) ∈ nx) ∧ (D3, listOf ws3.toArray 0) ∈ nx ∧ (Dn, LCg.lst ysN) ∈ nx ∧
          ∀ p ∈ [(Str.ofString "numbers", Value.ref Dn), (Str.ofString "script", Value.ref sl), (Str.ofString "feed", Value.ref it3)], m p.1 = some p.2) rfl hR3 (by rw [List.length_map]) (by omega) F' N'
          ⟨fun _ => by simp [octsTo_zero], by simp, by simp, by kst_all⟩ ?_ ?_
        · rintro i t m₁ nx I oI h tk hi ⟨n1, n2, n3, hm⟩ hoff F' N'
          have F' := fr_ps hm F'
          have n1 := n1 hi
          have N' : News s₁.heap _ h [(it3, itObj D3 (octsTo xs i).length), (D3, listOf ws3.toArray 0), (I, oI), (Dn, LCg.lst ysN)] := fun p hp => N' p (by
            simp only [List.mem_cons, List.not_mem_nil, or_false] at hp ⊢
            rcases hp with rfl | rfl | rfl | rfl <;> simp [n1, n2, n3])
          have hlm : (List.map (fun n : Nat => (n : Int)) xs).length = xs.length := List.length_map _
          k_steps
          unfold Stop
          refine read_call (l := D3) (n := 0) (i := (octsTo xs i).length) (news := [(I, oI), (Dn, LCg.lst ysN)]) K0 F' KX N' ?_ T (Around.frames_deeper K0.stack) rfl (by (simp only [depth_deeper, depth_caller]; decide)) rfl hI3 hob3 (by omega) ?_ ?_
          · intro p hp
            simp only [List.mem_cons, List.not_mem_nil, or_false] at hp
            rcases hp with rfl | rfl
            · exact (hoff _ n1).symm
            · exact hit3D
          · intro v k hr h' tk' t' F' N'
            by_cases hi2 : i + 1 < xs.length
            · rw [rd_cut xs hlt hi2] at hr
              obtain ⟨rfl, rfl⟩ : ((xs.getD i 0 : Nat) : Int) = v ∧ (told (xs.getD i 0) i).length = k := by
                have := Option.some.inj hr
                exact ⟨congrArg Prod.fst this, congrArg Prod.snd this⟩
              k_steps
              · rename ((xs.getD i 0 : Nat) : Int) ≠ _ => hnn
                exact absurd (map_getD xs i).symm hnn
              · unfold Stop
                refine Turn.next (nx := [(it3, itObj D3 (octsTo xs (i + 1)).length), (D3, listOf ws3.toArray 0), (Dn, LCg.lst ysN)]) F' (fun p hp => ?_) ?_ ⟨fun _ => by simp, by simp, by simp, by kst_all⟩
                · rw [octsTo_succ, List.length_append] at hp
                  refine N' p ?_
                  simp only [List.mem_cons, List.nil_append, List.not_mem_nil, or_false] at hp ⊢
                  rcases hp with h | h | h | h <;> simp [h]
                · intro p hp
                  simp only [List.mem_cons, List.not_mem_nil, or_false] at hp
                  rcases hp with rfl | rfl | rfl
                  · exact hoff (it3, itObj D3 (octsTo xs i).length) n1
                  · exact hoff _ n2
                  · exact hoff _ n3
            · obtain ⟨m, hm9⟩ : ∃ m, xs.length = m + 1 := ⟨xs.length - 1, by omega⟩
              have : i = m := by omega
              subst this
              rw [hm9, rd_cut_end xs hlt] at hr
              cases hr
          · intro hr h' tk' F' N'
            by_cases hi2 : i + 1 < xs.length
            · rw [rd_cut xs hlt hi2] at hr
              cases hr
            · k_steps
              unfold Stop
              refine Turn.next (nx := [(D3, listOf ws3.toArray 0), (Dn, LCg.lst ysN)]) F' (fun p hp => ?_) ?_ ⟨fun h => absurd h hi2, by simp, by simp, by kst_all⟩
              · refine N' p ?_
                simp only [List.mem_cons, List.nil_append, List.not_mem_nil, or_false] at hp ⊢
                rcases hp with h | h | h <;> simp [h]
              · intro p hp
                simp only [List.mem_cons, List.not_mem_nil, or_false] at hp
                rcases hp with rfl | rfl
                · exact hoff _ n2
                · exact hoff _ n3
        · rintro m₁ nx h tk ⟨_, n2, n3, hm⟩ F' N'
          have F' := fr_pd hm F'
          have N' : News s₁.heap _ h [(Dn, LCg.lst ysN)] := fun p hp => N' p (by
            simp only [List.mem_cons, List.not_mem_nil, or_false] at hp
            rcases hp with rfl; exact n3)
          k_steps
          unfold Stop
          k_dflt (refine LCg.Assign_ListComp_U (F₀ := by k_asm) (by rfl) (by with_unfolding_all rfl) (by rfl) (by decide) (by rfl) (by decide) (by rfl) (by rfl) (by rfl) ?_)
          k_steps
          unfold Stop
          rename_i _ hI4 hL4 D4 _ _ F' N' _
          rename List Value => ys4
          have hrow : ∀ b ∈ List.map (fun k' : Int => k'.fmod 256) (List.take 60 ns), 0 ≤ b ∧ b < 256 := by
            intro b hb
            obtain ⟨k, _, rfl⟩ := List.mem_map.mp hb
            rw [Int.fmod_eq_emod_of_nonneg _ (by decide)]
            omega
          have hrl : (List.map (fun k' : Int => k'.fmod 256) (List.take 60 ns)).length ≤ 60 := by
            rw [List.length_map, List.length_take]; omega
          generalize List.map (fun k' : Int => k'.fmod 256) (List.take 60 ns) = rows at *
          have N' : News s₁.heap _ _ [(D4, LCg.lst ys4)] := fun p hp => N' p (by
            simp only [List.mem_cons, List.not_mem_nil, or_false] at hp
            rcases hp with rfl; simp)
          refine nx_iter F' N' ⟨_, (N' _ (.head _)).1, rfl, _, rfl⟩ ?_
          intro it4 h' F' N' lI4
          have hit4 : D4 ≠ it4 := Nat.ne_of_lt (lI4 _ (.head _))
          k_steps
          unfold Stop
          rename_i F' N'
          k_unmd
          k_fold
          (with_unfolding_all refine' For_invVF F' ?k1 ?k2 ?_; (case k1 => exact rfl); (case k2 => exact rfl))
          k_steps
          unfold Stop
          obtain ⟨tv0, F'⟩ := fr_tok F'
          refine lst_inv (l := D4) (c := ys4.length) (fun i m nx => ∃ q v tv, nx = [(it4, itObj D4 q)] ∧ q ≤ i ∧ Goes ((rows.take i).drop q) ∧ v = fold6 0 ((rows.take i).drop q) ∧
            ∀ p ∈ [(Str.ofString "feed", Value.ref it4), (Str.ofString "row", Value.ref D4), (Str.ofString "value", Value.int v tv)], m p.1 = some p.2) rfl hI4 F'
            (news := [(it4, itObj D4 0)]) (fun p hp => N' p (by
              simp only [List.mem_cons, List.not_mem_nil, or_false] at hp ⊢
              rcases hp with h | h <;> simp [h])) ⟨0, 0, tv0, rfl, Nat.le_refl _, (fun _ h => nomatch h), rfl, by kst_all⟩ ?_ ?_
          · rintro i z t m₁ nx I oI h tk hz ⟨q, v, tv, rfl, hq, hg, hv, hm⟩ hIl hoff F' N'
            have F' := fr_ps hm F'
            have hzr := hrow z (List.mem_of_getElem? hz)
            have hi : i < rows.length := (List.getElem?_eq_some_iff.mp hz).1
            have hvb : 0 ≤ v ∧ v < 2 ^ (6 * 60) := by
              have h1 := fold6_bound ((rows.take i).drop q) 0 0 (by decide) (by decide)
              rw [row_len hz, ← hv, Nat.zero_add] at h1
              exact ⟨h1.1, Int.lt_of_lt_of_le h1.2 (two_pow_le (by omega))⟩
            have hflag : (z.fdiv 64).fmod 2 = z / 64 % 2 := by
              rw [Int.fdiv_eq_ediv_of_nonneg _ (by decide), Int.fmod_eq_emod_of_nonneg _ (by decide)]
            have hlow : 64 * v + z.fmod 64 = fold6 0 ((rows.take i).drop q ++ [z]) := by
              rw [fold6_one, ← hv, Int.fmod_eq_emod_of_nonneg _ (by decide), Int.mul_comm]
            k_steps
            · unfold Stop
              rename (z.fdiv 64).fmod 2 = 0 => hf0
              rw [hflag] at hf0
              rename_i F' N'
              rw [hlow] at F'
              have hrd : rd (rows.drop q) = some (fold6 0 ((rows.take i).drop q ++ [z]), ((rows.take i).drop q).length + 1) := by
                rw [row_split hz hq, rd_run hf0 hg]
              rw [row_len hz] at hrd
              refine read_call (l := D4) (n := ys4.length) (i := q) (news := [(I, oI)]) K0 F' KX (fun p hp => N' p (by
                simp only [List.mem_cons, List.not_mem_nil, or_false] at hp ⊢
                rcases hp with h | h | h <;> simp [h])) ?_ T (Around.frames_deeper K0.stack) rfl (by (simp only [depth_deeper, depth_caller]; decide)) rfl hI4 hrow (by omega) ?_ ?_
              · intro p hp
                simp only [List.mem_cons, List.not_mem_nil, or_false] at hp
                rcases hp with rfl
                exact (hoff _ (.head _)).symm
              · intro v' k hr h' tk' t' F' N'
                rw [hrd] at hr
                obtain ⟨rfl, rfl⟩ : fold6 0 ((rows.take i).drop q ++ [z]) = v' ∧ i - q + 1 = k := by
                  have := Option.some.inj hr
                  exact ⟨congrArg Prod.fst this, congrArg Prod.snd this⟩
                have hqk : q + (i - q + 1) = i + 1 := by omega
                rw [hqk] at N'
                generalize fold6 0 ((rows.take i).drop q ++ [z]) = V at *
                k_steps
                · rename V ≠ V => hnn
                  exact absurd rfl hnn
                · unfold Stop
                  rename_i F' N'
                  obtain ⟨tv9, F'⟩ := fr_tok F'
                  have hdz : (rows.take (i + 1)).drop (i + 1) = [] := List.drop_eq_nil_of_le (by rw [List.length_take]; omega)
                  refine Turn.next (nx := [(it4, itObj D4 (i + 1))]) F' (fun p hp => N' p (by
                    simp only [List.mem_cons, List.cons_append, List.nil_append, List.not_mem_nil, or_false] at hp ⊢
                    rcases hp with h | h | h <;> simp [h])) ?_ ⟨i + 1, 0, tv9, rfl, Nat.le_refl _, by rw [hdz]; exact (fun _ h => nomatch h), by rw [hdz]; rfl, by kst_all⟩
                  intro p hp
                  simp only [List.mem_cons, List.not_mem_nil, or_false] at hp
                  rcases hp with rfl
                  exact hoff (it4, itObj D4 q) (.head _)
              · intro hr
                rw [hrd] at hr
                cases hr
            · unfold Stop
              rename (z.fdiv 64).fmod 2 ≠ 0 => hf1
              rw [hflag] at hf1
              rename_i F' N'
              rw [hlow] at F'
              obtain ⟨tv9, F'⟩ := fr_tok F'
              refine Turn.next (nx := [(it4, itObj D4 q)]) F' (fun p hp => N' p (by
                simp only [List.mem_cons, List.cons_append, List.nil_append, List.not_mem_nil, or_false] at hp ⊢
                rcases hp with h | h | h <;> simp [h])) hoff ⟨q, _, tv9, rfl, by omega, ?_, by rw [row_take hz hq], by kst_all⟩
              rw [row_take hz hq]
              intro c hc
              rcases List.mem_append.mp hc with hc | hc
              · exact hg c hc
              · rw [List.mem_singleton.mp hc]; omega
          · rintro m₁ nx h tk ⟨q, v, tv, rfl, hq, hg, hv, hm⟩ F' N'
            have F' := fr_pd hm F'
            rw [List.take_length] at hg
            k_steps
            unfold Stop
            refine read_call (l := D4) (n := ys4.length) (i := q) (news := []) K0 F' KX (fun p hp => N' p (by
              simp only [List.mem_cons, List.not_mem_nil, or_false] at hp ⊢
              rcases hp with h | h <;> simp [h])) (fun _ h => nomatch h) T (Around.frames_deeper K0.stack) rfl (by (simp only [depth_deeper, depth_caller]; decide)) rfl hI4 hrow (by omega) ?_ ?_
            · intro v k hr
              rw [rd_none hg] at hr
              cases hr
            · intro _ h' tk' F' N'
              k_steps)
end Mine
end

theorem PySem.Challenge.cw_xg0002_01_holds : PySem.Challenge.rw_xg0002_01.Holds :=
  Mine.law_holds
