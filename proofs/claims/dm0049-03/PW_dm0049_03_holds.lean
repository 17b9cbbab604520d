import PyProof.Rows.All
import Wide.All
import OpenK.AllK
import Wide.FinOn
import PySem.Challenge.RW_dm0049_03
set_option Elab.async false
section
open PySem PySem.W PyProof.Rows PySem.Calls
set_option maxRecDepth 100000
namespace Mine
open Builtin

theorem udeNew : ExcNewFacts "UnicodeDecodeError" "UnicodeDecodeError.__new__" where
  ends := by decide +kernel
  owner := by decide +kernel
  entry := entryFor_alias (id' := "BaseException.__new__") (by rw [fastTable_eq_tree]; kernel_rfl) (by first | rfl | decide +kernel) (by decide +kernel) (by rw [fastTable_eq_tree]; kernel_rfl)
  sub := by rw [isSubtype_type]; kernel_rfl
  notAttr := by rw [isSubtype_type]; kernel_rfl
  notName := by rw [isSubtype_type]; kernel_rfl
  made := by kernel_rfl
theorem ude_init : Slot "UnicodeDecodeError" "__init__" "UnicodeDecodeError.__init__" := .of (owner := "UnicodeDecodeError") (n := "__init__") (by rw [typeLookup_type, builtinLookup_eq_fast]; kernel_rfl) (by decide +kernel) (by decide +kernel) (by decide +kernel)
    (by first | exact .inl (by decide +kernel) | exact .inr (by decide +kernel)) (by rw [isSubtype_type]; kernel_rfl)
theorem ude_entry : entryFor table "UnicodeDecodeError.__init__" = some Builtin.«UnicodeDecodeError.__init__» := entryFor_of_tree (by kernel_rfl)
theorem ude_args (a b c d e f : Value) : argsOk "UnicodeDecodeError.__init__" ⟨[a, b, c, d, e, f], []⟩ := by unfold argsOk; kernel_rfl
theorem ude_newOk (rest : List Value) : checkBuiltinCall "UnicodeDecodeError.__new__" ⟨.type "UnicodeDecodeError" :: rest, []⟩ = pure () := by kernel_rfl
theorem ude_madeBy : Bind.madeBy (.type "UnicodeDecodeError") = pure (some "UnicodeDecodeError.__new__") := by kernel_rfl
theorem ude_canMake : ((Manifest.find? "UnicodeDecodeError").bind fun x => List.findSome? (fun t => (Manifest.find? t).bind fun b =>
    if b.noNew = true then some true else if (b.attrs.any fun x => x.fst == "__new__") = true then some false else none) x.mro).getD false = false := by kernel_rfl
theorem ude_noVector (args : Args) : checkTypeCall "UnicodeDecodeError" args = pure () := by kernel_rfl
theorem ude_mro : mroOf (.type "UnicodeDecodeError") = pure [.type "UnicodeDecodeError", .type "UnicodeError", .type "ValueError", .type "Exception", .type "BaseException", .type "object"] := by rw [mroOf_type]; kernel_rfl
theorem ude_notType : (Value.type "UnicodeDecodeError" == Value.type "type") = false := by decide +kernel

section
variable {prog : Program} {w : World} {A : Around} {E : Value → Shared → Prop}
theorem type_call_gen {cls newId initId : String} (F : ExcNewFacts cls newId) (notType : (Value.type cls == Value.type "type") = false)
  (canMake : ((Manifest.find? cls).bind fun x => List.findSome? (fun t => (Manifest.find? t).bind fun b =>
    if b.noNew = true then some true else if (b.attrs.any fun x => x.fst == "__new__") = true then some false else none) x.mro).getD false = false)
  (noVector : ∀ args, checkTypeCall cls args = pure ())
  (mro : ∃ m, mroOf (.type cls) = pure m ∧ m.isEmpty = false)
  (madeBy : Bind.madeBy (.type cls) = pure (some newId))
  (quiet : newId.startsWith "lifetime." = false)
  (newOk : ∀ rest, checkBuiltinCall newId ⟨.type cls :: rest, []⟩ = pure ())
  (init : Slot cls "__init__" initId) {rest : List Value} {Q : Value → Shared → Prop}
    {hp : Heap} {g : Array GenState} {d : Drawn} {tk : Nat} {os : OsState}
    (h : ∀ A', wpAny (model prog w) A' (call (.builtin initId) (.ref (hp.objs.size + 1) :: rest)) (fun v s' => v = .none ∧ Q (.ref (hp.objs.size + 1)) s') E
      ⟨(hp.push { cls := .type "tuple", data := .seq rest.toArray }).push { cls := .type cls, data := .fields #[.ref hp.objs.size, .none, .none, .none, .bool false, .none] }, g, d, tk, os⟩)
    (hrest : rest.length ≤ sizeLine := by size_fits) :
    wpAny (model prog w) A (call (.type cls) rest) Q E ⟨hp, g, d, tk, os⟩ := by
  refine wpAny_call (codeAny_of_tree ?_)
  show wpAny _ _ (again (.builtin "type.__call__" ⟨.type cls :: rest, []⟩)) _ _ _
  refine wpAny_pure ⟨Code.quiet_builtin _ (by decide +kernel), codeAny_builtin entry_typeCall ?_⟩
  have hchk := noVector ⟨rest, []⟩
  obtain ⟨m, hmro, hne⟩ := mro
  wp_walk
  refine codeAny_call_builtin_code (Code.quiet_builtin _ quiet) (wpAny_of_eq (newOk _) ?_)
  refine codeAny_exc_new F ?_ hrest
  show wpAny _ _ _ _ _ _
  have hget : ((hp.push { cls := .type "tuple", data := .seq rest.toArray }).push
      { cls := .type cls, data := .fields #[.ref hp.objs.size, .none, .none, .none, .bool false, .none] }).get? (hp.objs.size + 1) = some
      { cls := .type cls, data := .fields #[.ref hp.objs.size, .none, .none, .none, .bool false, .none] } := by heap_get
  refine wpAny_bind (wpAny_isInstance ⟨_, hget, rfl⟩ F.sub ?_)
  wp_step
  refine wpAny_bind (wpAny_holding (wpAny_callSpecial?_slot ⟨_, hget, rfl⟩ init (wpAny_mono (h _) ?_ (fun _ _ h => h))))
  rintro v s' ⟨rfl, hq⟩
  wp_walk
  exact hq



abbrev Mem := UnicodeEncodeError.Members
abbrev ex6 (t : Addr) : Array Value := #[.ref t, .none, .none, .none, .bool false, .none]
abbrev exF (t : Addr) (m : Mem) : Array Value := #[.ref t, .none, .none, .none, .bool false, .none, m.encoding, m.object, rawInt m.start, rawInt m.stop, m.reason]
abbrev udeObj (vs : Array Value) : Obj := { cls := .type "UnicodeDecodeError", data := .fields vs }
variable {M : Model} {s : Shared} {e t : Addr} {m m' : Mem}
theorem members_6 {Q : Mem → Shared → Prop} (he : s.heap.get? e = some (udeObj (ex6 t))) (h : Q {} s) : wpAny M A (UnicodeEncodeError.members (.ref e)) Q E s := by
  unfold UnicodeEncodeError.members
  exact wpAny_bind (wpAny_fieldsOf he rfl (wpAny_pure h))
theorem members_F {Q : Mem → Shared → Prop} (he : s.heap.get? e = some (udeObj (exF t m))) (h : Q m s) : wpAny M A (UnicodeEncodeError.members (.ref e)) Q E s := by
  unfold UnicodeEncodeError.members
  exact wpAny_bind (wpAny_fieldsOf he rfl (wpAny_pure h))
theorem setMembers_6 {Q : Unit → Shared → Prop} (he : s.heap.get? e = some (udeObj (ex6 t)))
    (h : ∀ h', Heap.SameBut e s.heap h' → h'.get? e = some (udeObj (exF t m')) → Q () { s with heap := h' }) : wpAny M A (UnicodeEncodeError.setMembers (.ref e) m') Q E s := by
  unfold UnicodeEncodeError.setMembers
  refine wpAny_updateFields he rfl (h _ (Heap.SameBut.update ..) ?_) ?_
  · rw [Heap.get?_update_self _ he rfl]; rfl
  · show 11 ≤ _; rw [sizeLine_eq]; omega
theorem setMembers_F {Q : Unit → Shared → Prop} (he : s.heap.get? e = some (udeObj (exF t m)))
    (h : ∀ h', Heap.SameBut e s.heap h' → h'.get? e = some (udeObj (exF t m')) → Q () { s with heap := h' }) : wpAny M A (UnicodeEncodeError.setMembers (.ref e) m') Q E s := by
  unfold UnicodeEncodeError.setMembers
  refine wpAny_updateFields he rfl (h _ (Heap.SameBut.update ..) ?_) ?_
  · rw [Heap.get?_update_self _ he rfl]; rfl
  · show 11 ≤ _; rw [sizeLine_eq]; omega
theorem setArgs_6 {t' : Addr} {Q : Unit → Shared → Prop} (he : s.heap.get? e = some (udeObj (ex6 t)))
    (h : ∀ h', Heap.SameBut e s.heap h' → h'.get? e = some (udeObj (ex6 t')) → Q () { s with heap := h' }) : wpAny M A (setField (.ref e) 0 (.ref t')) Q E s :=
  wpAny_setField he rfl (by show 0 < 6; decide) (h _ (Heap.SameBut.update ..) (by rw [Heap.get?_update_self _ he rfl]; rfl))
theorem sizeArg_int (id : String) (i : Int) (t : Tok) (hi : 0 ≤ i ∧ i < 2 ^ 62) : UnicodeEncodeError.sizeArgument id (.int i t) = pure i := by
  unfold UnicodeEncodeError.sizeArgument
  show (if ((decide (i < -(2 ^ 63 : Int)) || decide (i ≥ 2 ^ 63)) = true) then _ else (pure i : Sem Int)) = pure i
  rw [if_neg (by simp; omega)]

theorem ude_init_call {enc rs : PySem.Str} {b : Array UInt8} {i j : Int} {t1 t2 t3 t4 t5 : Tok} {Q : Value → Shared → Prop} {a0 : Addr}
    (hi : 0 ≤ i ∧ i < 2 ^ 62) (hj : 0 ≤ j ∧ j < 2 ^ 62) (he : s.heap.get? e = some (udeObj (ex6 a0)))
    (h : ∀ h' t, Heap.ExtBut e s.heap h' → s.heap.get? t = none → h'.get? e = some (udeObj (exF t ⟨.str enc t1, .bytes b t2, i, j, .str rs t5⟩)) → Q .none { s with heap := h' }) :
    wpAny (model prog w) A (call (.builtin "UnicodeDecodeError.__init__") [.ref e, .str enc t1, .bytes b t2, .int i t3, .int j t4, .str rs t5]) Q E s := by
  refine wpAny_call_entry ude_init ⟨_, he, rfl⟩ ude_entry ?_ (ude_args _ _ _ _ _ _)
  unfold Builtin.«UnicodeDecodeError.__init__»
  refine wpAny_bind ?_
  unfold UnicodeEncodeError.beginInit
  show wpAny _ _ (field (.ref e) 0 >>= _) _ _ _
  refine wpAny_bind (wpAny_field he rfl (x := .ref a0) rfl ?_)
  refine wpAny_bind (wpAny_newObj_type ?_ (by size_fits))
  refine wpAny_bind (setArgs_6 (Heap.get?_push_of_some _ he) fun h1 s1 e1 => ?_)
  refine wpAny_bind (wpAny_letGo ?_)
  show wpAny _ _ (UnicodeEncodeError.members (.ref e) >>= _) _ _ _
  refine wpAny_bind (members_6 e1 ?_)
  refine wpAny_bind (setMembers_6 e1 fun h2 s2 e2 => ?_)
  refine wpAny_bind (wpAny_letGo ?_)
  refine wpAny_bind (members_F e2 ?_)
  refine wpAny_bind (setMembers_F e2 fun h3 s3 e3 => ?_)
  refine wpAny_bind (wpAny_letGo ?_)
  refine wpAny_bind (members_F e3 ?_)
  refine wpAny_bind (setMembers_F e3 fun h4 s4 e4 => ?_)
  refine wpAny_bind (wpAny_letGo ?_)
  show wpAny _ _ (pure (Value.ref e, [Value.str enc t1, .bytes b t2, .int i t3, .int j t4, .str rs t5])) _ _ _
  refine wpAny_pure ?_
  show wpAny _ _ (UnicodeEncodeError.strArgument _ 1 _ >>= _) _ _ _
  refine wpAny_bind (wpAny_of_eq (a := ()) (by rfl) ?_)
  refine wpAny_bind ?_
  unfold UnicodeEncodeError.initRange
  refine wpAny_bind (wpAny_of_eq (sizeArg_int _ _ _ hi) ?_)
  refine wpAny_bind (members_F e4 ?_)
  refine wpAny_bind (setMembers_F e4 fun h5 s5 e5 => ?_)
  refine wpAny_bind (wpAny_of_eq (sizeArg_int _ _ _ hj) ?_)
  refine wpAny_bind (members_F e5 ?_)
  refine (setMembers_F e5 fun h6 s6 e6 => ?_)
  refine wpAny_bind (wpAny_of_eq (a := ()) (by rfl) ?_)
  show wpAny _ _ (UnicodeEncodeError.members (.ref e) >>= _) _ _ _
  refine wpAny_bind (members_F e6 ?_)
  refine wpAny_bind (setMembers_F e6 fun h7 s7 e7 => ?_)
  refine wpAny_pure ⟨_, rfl, h h7 s.heap.objs.size ?_ (Heap.get?_none_of_le (Nat.le_refl _)) e7⟩
  exact ((((((((Heap.ExtBut.refl e s.heap).push _).trans s1.extBut).trans s2.extBut).trans s3.extBut).trans s4.extBut).trans s5.extBut).trans s6.extBut).trans s7.extBut

theorem ude_call {enc rs : PySem.Str} {b : Array UInt8} {i j : Int} {t1 t2 t3 t4 t5 : Tok} {Q : Value → Shared → Prop}
    {hp : Heap} {g : Array GenState} {d : Drawn} {tk : Nat} {os : OsState} (hi : 0 ≤ i ∧ i < 2 ^ 62) (hj : 0 ≤ j ∧ j < 2 ^ 62)
    (h : ∀ h' e t, (∀ b o, hp.get? b = some o → h'.get? b = some o) → hp.get? e = none → hp.get? t = none →
      h'.get? e = some (udeObj (exF t ⟨.str enc t1, .bytes b t2, i, j, .str rs t5⟩)) →
      Q (.ref e) ⟨h', g, d, tk, os⟩) :
    wpAny (model prog w) A (call (.type "UnicodeDecodeError") [.str enc t1, .bytes b t2, .int i t3, .int j t4, .str rs t5]) Q E ⟨hp, g, d, tk, os⟩ := by
  refine type_call_gen udeNew ude_notType ude_canMake ude_noVector ⟨_, ude_mro, rfl⟩ ude_madeBy (by decide +kernel) ude_newOk ude_init (fun A' => ?_) (by size_fits)
  refine ude_init_call hi hj (by heap_get) fun h' t hx ht he => ⟨rfl, h h' _ t (fun b o hb => ?_) (Heap.get?_none_of_le (Nat.le_succ _)) ?_ he⟩
  · exact hx b o (Nat.ne_of_lt (Nat.lt_succ_of_lt (Heap.lt_size hb))) (Heap.get?_push_of_some _ (Heap.get?_push_of_some _ hb))
  · cases hq : hp.get? t with
    | none => rfl
    | some o => rw [Heap.get?_push_of_some _ (Heap.get?_push_of_some _ hq)] at ht; cases ht
end
end Mine
end
section
open PySem PySem.W PyProof.Rows PySem.Calls
set_option maxRecDepth 100000
namespace Mine
open Builtin
abbrev sAscii : PySem.Str := PySem.Str.ofString "ascii"
abbrev sSur : PySem.Str := PySem.Str.ofString "surrogateescape"
abbrev hSur : Value := .builtin "_codecs.lookup_error.surrogateescape"
theorem ude_sub_enc : isSubtype (.type "UnicodeDecodeError") (.type "UnicodeEncodeError") = pure false := by rw [isSubtype_type]; kernel_rfl
theorem ude_sub_tr : isSubtype (.type "UnicodeDecodeError") (.type "UnicodeTranslateError") = pure false := by rw [isSubtype_type]; kernel_rfl
theorem sur_kind : builtinKind "_codecs.lookup_error.surrogateescape" = none := by decide +kernel
theorem sur_plain : plainId "_codecs.lookup_error.surrogateescape" = true := by decide +kernel
theorem sur_entry : entryFor table "_codecs.lookup_error.surrogateescape" = some Builtin.«_codecs.lookup_error.surrogateescape» := entryFor_of_tree (by kernel_rfl)
theorem sur_args (a : Value) : argsOk "_codecs.lookup_error.surrogateescape" ⟨[a], []⟩ := by unfold argsOk; kernel_rfl
theorem tyRef {s : Shared} {a : Addr} {o : Obj} {T : String} (he : s.heap.get? a = some o) (hc : o.cls = .type T) : s.TypeIs (.ref a) T := ⟨o, he, hc⟩
section
variable {prog : Program} {w : World} {A : Around} {E : Value → Shared → Prop} {s : Shared} {e t : Addr}
theorem sur_call {b : Array UInt8} {p : Nat} {ev rv : Value} {t2 : Tok} {Q : Value → Shared → Prop} (hp : p < b.size) (hx : 128 ≤ b[p].toNat) (hsz : b.size ≤ 1000)
    (he : s.heap.get? e = some (udeObj (exF t ⟨ev, .bytes b t2, p, p + 1, rv⟩)))
    (h : ∀ k1 k2 tk, Q (.ref s.heap.objs.size) { s with heap := s.heap.push { cls := .type "tuple", data := .seq #[.str ⟨#[b[p].toNat + 0xDC00]⟩ k1, .int (p + 1) k2] }, toks := tk }) :
    wpAny (model prog w) A (call hSur [.ref e]) Q E s := by
  refine call_function_entry sur_kind sur_plain sur_entry (sur_args _) ?_
  unfold Builtin.«_codecs.lookup_error.surrogateescape»
  refine wpAny_bind (wpAny_of_eq (a := Value.ref e) (by first | rfl | kernel_rfl) ?_)
  refine wpAny_bind ?_
  unfold _codecs.seen
  refine wpAny_bind (wpAny_isInstance (tyRef he rfl) ude_sub_enc ?_)
  refine wpAny_bind (wpAny_isInstance (tyRef he rfl) udeNew.sub ?_)
  refine wpAny_bind (wpAny_isInstance (tyRef he rfl) ude_sub_tr ?_)
  show wpAny _ _ (pure _codecs.Kind.decode >>= _) _ _ _
  refine wpAny_bind (wpAny_pure ?_)
  show wpAny _ _ (UnicodeEncodeError.members (.ref e) >>= _) _ _ _
  refine wpAny_bind (members_F he ?_)
  show wpAny _ _ (pure (b.map (·.toNat)) >>= _) _ _ _
  refine wpAny_bind (wpAny_pure ?_)
  have hne : (b.map (·.toNat)).isEmpty = false := by simp; intro h; subst h; simp at hp
  dsimp only
  rw [hne]
  refine wpAny_pure ?_
  have h1 : min (max (p : Int) 0) (((b.map (·.toNat)).size : Int) - 1) = (p : Int) := by simp; omega
  have h2 : min (max ((p : Int) + 1) 1) ((b.map (·.toNat)).size : Int) = (p : Int) + 1 := by simp; omega
  dsimp only
  rw [h1, h2]
  have h3 : ((((b.map (·.toNat)).extract (p : Int).toNat ((p : Int) + 1).toNat).toList.take 4).takeWhile (fun x => decide (x ≥ 128))).toArray = #[b[p].toNat] := by
    have e1 : (p : Int).toNat = p := by omega
    have e2 : ((p : Int) + 1).toNat = p + 1 := by omega
    rw [e1, e2]
    have : ((b.map (·.toNat)).extract p (p + 1)) = #[b[p].toNat] := by
      apply Array.ext
      · simp; omega
      · intro i h1 h2
        simp at h2; subst h2; simp
    rw [this]; simp [hx]
  rw [h3]
  have h4 : Array.map (fun x => x + 0xDC00) #[b[p].toNat] = #[b[p].toNat + 0xDC00] := by simp
  show wpAny _ _ (_codecs.answer (Array.map (fun x => x + 0xDC00) #[b[p].toNat]) ((p : Int) + 1)) _ _ _
  rw [h4]
  unfold _codecs.answer
  refine wpAny_bind (wpAny_mkStr ?_ (by show 1 ≤ _; rw [sizeLine_eq]; omega))
  refine wpAny_bind (wpAny_mkInt ?_)
  refine wpAny_bind (wpAny_newObj_type ?_ (by size_fits))
  exact wpAny_pure ⟨_, rfl, h _ _ _⟩

open _codecs in
/-- the faults' state between two turns -/
inductive DF (h0 : Heap) (b : Array UInt8) : Faults → Heap → Prop where
  | none {h : Heap} (k : ∀ a o, h0.get? a = some o → h.get? a = some o) : DF h0 b { handler := .none, exc := .none, held := [] } h
  | some {h : Heap} {e t : Addr} {ev rv : Value} {i j : Int} {t2 : Tok} (k : ∀ a o, h0.get? a = some o → h.get? a = some o) (n : h0.get? e = Option.none)
      (he : h.get? e = Option.some (udeObj (exF t ⟨ev, .bytes b t2, i, j, rv⟩))) : DF h0 b { handler := Option.some hSur, exc := Option.some (.ref e), held := [] } h

end
section
variable {prog : Program} {w : World} {A : Around} {E : Value → Shared → Prop} {M : Model} {h : Heap} {g : Array GenState} {d : Drawn} {tk : Nat} {os : OsState} {e t : Addr}
theorem mkBytes' {b : Array UInt8} {Q : Value → Shared → Prop} (hq : Q (.bytes b tk) ⟨h, g, d, tk + 1, os⟩) (hb : b.size ≤ 1000) : wpAny M A (mkBytes b) Q E ⟨h, g, d, tk, os⟩ :=
  wpAny_mkBytes hq (by rw [sizeLine_eq]; omega)
open _codecs in
theorem fault {id : String} {h0 : Heap} {b : Array UInt8} {p : Nat} {st : Faults} {Q : Faults × Array Nat × Nat → Shared → Prop} (hp : p < b.size) (hx : 128 ≤ b[p].toNat) (hsz : b.size ≤ 1000)
    (D : DF h0 b st h)
    (hq : ∀ st' h' tk, DF h0 b st' h' → Q (st', #[b[p].toNat + 0xDC00], p + 1) ⟨h', g, d, tk, os⟩) :
    wpAny (model prog w) A (decodeFault id st (some sSur) ["ignore", "replace", "surrogateescape"] "ascii" b p (p + 1) "ordinal not in range(128)") Q E ⟨h, g, d, tk, os⟩ := by
  have hst : st.held = [] := by cases D <;> rfl
  unfold decodeFault
  refine wpAny_bind (wpAny_of_eq (a := hSur) (by cases D <;> kernel_rfl) ?_)
  refine wpAny_bind (wpAny_holding ?_)
  refine wpAny_mono (Q := fun v s' => ∃ e t ev rv t2 h' tk', v = .ref e ∧ s' = ⟨h', g, d, tk', os⟩ ∧ (∀ a o, h0.get? a = Option.some o → h'.get? a = Option.some o) ∧ h0.get? e = Option.none ∧
    h'.get? e = Option.some (udeObj (exF t ⟨ev, .bytes b t2, p, p + 1, rv⟩))) ?exc ?tail (fun _ _ h => h)
  case exc =>
    cases D with
    | none k =>
      show wpAny _ _ (mkStr (PySem.Str.ofString "ascii") >>= fun a => mkBytes b >>= fun ob => mkInt p >>= fun x => mkInt ((p + 1 : Nat) : Int) >>= fun y => mkStr (PySem.Str.ofString "ordinal not in range(128)") >>= fun z => call (.type "UnicodeDecodeError") [a, ob, x, y, z]) _ _ _
      refine wpAny_bind (wpAny_mkStr' ?_)
      refine wpAny_bind (mkBytes' ?_ hsz)
      refine wpAny_bind (wpAny_mkInt' ?_)
      refine wpAny_bind (wpAny_mkInt' ?_)
      refine wpAny_bind (wpAny_mkStr' ?_)
      refine ude_call (by omega) (by omega) fun h1 e t k1 n1 _ e1 => ?_
      refine ⟨e, t, _, _, _, h1, _, rfl, rfl, fun a o ha => k1 a o (k a o ha), ?_, e1⟩
      cases hz : h0.get? e with
      | none => rfl
      | some o => rw [k e o hz] at n1; cases n1
    | @some _ e0 _ _ _ _ _ _ k n he =>
      show wpAny _ _ (UnicodeEncodeError.members (.ref e0) >>= fun m => mkStr (PySem.Str.ofString "ordinal not in range(128)") >>= fun r => UnicodeEncodeError.setMembers (.ref e0) { m with start := (p : Int), stop := ((p + 1 : Nat) : Int), reason := r } >>= fun _ => pure (Value.ref e0)) _ _ _
      refine wpAny_bind (members_F he ?_)
      refine wpAny_bind (wpAny_mkStr' ?_)
      refine wpAny_bind (setMembers_F he fun h1 s1 e1 => ?_)
      refine wpAny_pure ⟨_, _, _, _, _, h1, _, rfl, rfl, fun a o ha => s1.extBut a o ?_ (k a o ha), n, e1⟩
      intro hh; subst hh; rw [n] at ha; cases ha
  case tail =>
    rintro v s' ⟨e, t, ev, rv, t2, h1, tk1, rfl, rfl, k, n, he⟩
    refine wpAny_bind ?_
    show wpAny _ _ (UnicodeEncodeError.members (.ref e) >>= _) _ _ _
    refine wpAny_bind (members_F he ?_)
    rw [hst]
    show wpAny _ _ (holding _ (call hSur [.ref e]) >>= _) _ _ _
    refine wpAny_bind (wpAny_holding (sur_call hp hx hsz he fun k1 k2 tk2 => ?_))
    have he' := Heap.get?_push_of_some { cls := .type "tuple", data := .seq #[.str ⟨#[b[p].toNat + 0xDC00]⟩ k1, .int (p + 1) k2] } he
    refine wpAny_bind (members_F he' ?_)
    have hg : (h1.push { cls := .type "tuple", data := .seq #[.str ⟨#[b[p].toNat + 0xDC00]⟩ k1, .int (p + 1) k2] }).get? h1.objs.size = some { cls := .type "tuple", data := .seq #[.str ⟨#[b[p].toNat + 0xDC00]⟩ k1, .int (p + 1) k2] } := by heap_get
    show wpAny _ _ (ite ((!(t2 == t2 && b == b)) = true) _ _) _ _ _
    rw [if_neg (by simp)]
    refine wpAny_pure (wpAny_holding ?_)
    dsimp only
    refine wpAny_bind ?_
    show wpAny _ _ (isInstance (.ref h1.objs.size) (.type "tuple") >>= _) _ _ _
    refine wpAny_bind (wpAny_isInstance (tyRef hg rfl) isSubtype_tuple_tuple ?_)
    show wpAny _ _ (seqItems? (.ref h1.objs.size) >>= _) _ _ _
    refine wpAny_bind (wpAny_seqItems hg rfl ?_)
    refine wpAny_pure ?_
    refine wpAny_bind (wpAny_of_eq (a := Option.some ⟨#[b[p].toNat + 0xDC00]⟩) (by first | rfl | kernel_rfl) ?_)
    dsimp only
    have hix : ((decide (((p : Int) + 1) < -(2 ^ 63 : Int)) || decide ((p : Int) + 1 ≥ 2 ^ 63)) = true) = False := by simp; omega
    refine wpAny_bind ?_
    show wpAny _ _ (if ((decide (((p : Int) + 1) < -(2 ^ 63 : Int)) || decide ((p : Int) + 1 ≥ 2 ^ 63)) = true) then _ else _) _ _ _
    rw [if_neg (by simp; omega)]
    refine wpAny_pure ?_
    refine wpAny_bind ?_
    have e1 : (if (p : Int) + 1 < 0 then (p : Int) + 1 + (b.size : Int) else (p : Int) + 1) = (p : Int) + 1 := if_neg (by omega)
    show wpAny _ _ (ite ((decide ((if (p : Int) + 1 < 0 then (p : Int) + 1 + (b.size : Int) else (p : Int) + 1) < 0) || decide ((if (p : Int) + 1 < 0 then (p : Int) + 1 + (b.size : Int) else (p : Int) + 1) > (b.size : Int))) = true) _ _) _ _ _
    rw [if_neg (by rw [e1]; simp; omega)]
    show wpAny _ _ (ite ((if (p : Int) + 1 < 0 then (p : Int) + 1 + (b.size : Int) else (p : Int) + 1) ≤ (p : Int)) _ (pure (if (p : Int) + 1 < 0 then (p : Int) + 1 + (b.size : Int) else (p : Int) + 1).toNat)) _ _ _
    rw [if_neg (by rw [e1]; omega), e1, show ((p : Int) + 1).toNat = p + 1 by omega]
    refine wpAny_pure (wpAny_pure (hq _ _ _ ?_))
    exact .some (fun a o ha => Heap.get?_push_of_some _ (k a o ha)) n he'

/-- what decode gives: each octet below 128 itself, else its lone surrogate -/
def decCp (x : UInt8) : Nat := if x.toNat < 128 then x.toNat else x.toNat + 0xDC00
open _codecs in
theorem run_dec {id : String} {b : Array UInt8} {Q : Array Nat × Nat → Shared → Prop} (hsz : b.size ≤ 1000)
    (hq : ∀ h' tk, (∀ a o, h.get? a = Option.some o → h'.get? a = Option.some o) → Q (b.map decCp, b.size) ⟨h', g, d, tk, os⟩) :
    wpAny (model prog w) A (runDecoder id asciiDecoder (some sSur) true b 0 []) Q E ⟨h, g, d, tk, os⟩ := by
  unfold runDecoder
  dsimp only
  refine wpAny_bind ?_
  rw [Std.Legacy.Range.forIn_eq_forIn_range']
  have hl : List.range' 0 [:b.size].size 1 = List.range' 0 b.size := by simp [Std.Legacy.Range.size]
  refine wpAny_forIn_list _ (fun (rest : List Nat) (b' : Nat × Array Nat × Faults) s' => ∃ h' tk', s' = ⟨h', g, d, tk', os⟩ ∧ DF h b b'.2.2 h' ∧ b'.1 + rest.length = b.size ∧ b'.2.1 = (b.map decCp).extract 0 b'.1) _
    (fun x rest b' s' hI => ?turn) (fun b' s' hI => ?fin) _ _ ⟨h, tk, rfl, .none (fun _ _ e => e), by simp [Std.Legacy.Range.size], by simp⟩
  case fin =>
    obtain ⟨h', tk', rfl, D, hp, ho⟩ := hI
    obtain ⟨p, out, st⟩ := b'
    dsimp only at hp ho ⊢
    simp only [List.length_nil, Nat.add_zero] at hp
    subst hp ho
    refine wpAny_pure ?_
    have : (b.map decCp).extract 0 b.size = b.map decCp := by simp
    rw [this]
    exact hq _ _ (by cases D <;> assumption)
  case turn =>
    obtain ⟨h', tk', rfl, D, hp, ho⟩ := hI
    obtain ⟨p, out, st⟩ := b'
    dsimp only at hp ho ⊢
    simp only [List.length_cons] at hp
    have hlt : p < b.size := by omega
    have hos : out.size ≤ 1000 := by subst ho; simp; omega
    rw [if_neg (by rw [sizeLine_eq]; omega)]
    rw [if_neg (by omega)]
    have hout : ∀ y, y = decCp b[p] → out ++ #[y] = (b.map decCp).extract 0 (p + 1) := by
      intro y hy
      subst hy ho
      apply Array.ext
      · simp; omega
      · intro i h1 h2
        simp at h1 h2
        rw [Array.getElem_append]
        split
        · simp
        · have : i = p := by simp at *; omega
          subst this; simp
    have hgd : b.getD p 0 = b[p] := by simp [Array.getD, hlt]
    by_cases hx : b[p].toNat < 128
    · have hf : asciiDecoder.find true b p = .text [b[p].toNat] (p + 1) := by
        show (if (b.getD p 0).toNat < 128 then Found.char (b.getD p 0).toNat (p + 1) else .bad (p + 1) "ordinal not in range(128)" false) = _
        rw [hgd, if_pos hx]; rfl
      rw [hf]
      dsimp only
      refine wpAny_pure ⟨h', tk', rfl, D, by dsimp only; omega, hout _ (by unfold decCp; rw [if_pos hx])⟩
    · have hf : asciiDecoder.find true b p = .bad (p + 1) "ordinal not in range(128)" false := by
        show (if (b.getD p 0).toNat < 128 then Found.char (b.getD p 0).toNat (p + 1) else .bad (p + 1) "ordinal not in range(128)" false) = _
        rw [hgd, if_neg hx]
      rw [hf]
      dsimp only
      rw [if_neg (by simp)]
      refine wpAny_bind (wpAny_rule ?_)
      refine wpAny_bind (fault hlt (by omega) hsz D fun st' h2 tk2 D2 => ?_)
      refine wpAny_pure ⟨h2, tk2, rfl, D2, by dsimp only; omega, hout _ (by unfold decCp; rw [if_neg hx])⟩
end
end Mine
end
section
open PySem PySem.W PyProof.Rows PySem.Calls
set_option maxRecDepth 100000
namespace Mine
open Builtin
def decTxt (b : Array UInt8) : PySem.Str := ⟨b.map decCp⟩
theorem decode_entry_nil (t t1 t2 : Tok) : «bytes.decode» ⟨[.bytes #[] t, .str sAscii t1, .str sSur t2], []⟩ = (rule "bytes.decode.empty" >>= fun _ => retStr PySem.Str.empty) := by kernel_rfl
theorem decode_entry (c : UInt8) (cs : List UInt8) (t t1 t2 : Tok) : «bytes.decode» ⟨[.bytes (c :: cs).toArray t, .str sAscii t1, .str sSur t2], []⟩ =
    (mkStr (PySem.Str.ofString "utf-8") >>= fun _ => mkStr sAscii >>= fun e => mkStr sSur >>= fun r => mkStr (PySem.Str.ofString "bytes.decode") >>= fun d =>
    call (.builtin "_codecs.decode.text") [.bytes (c :: cs).toArray t, e, r, d] >>= fun v => ret v) := by kernel_rfl
theorem road_ascii {id : String} (b : Array UInt8) : _codecs.decodeRoad id b sAscii (some sSur) [] = (_codecs.runDecoder id _codecs.asciiDecoder (some sSur) true b 0 [] >>= fun r => mkStr ⟨r.1⟩) := by kernel_rfl
theorem args_decode3 (a b c : Value) : argsOk "bytes.decode" ⟨[a, b, c], []⟩ := by unfold argsOk; kernel_rfl
section
variable {prog : Program} {w : World} {A : Around} {E : Value → Shared → Prop} {M : Model} {h : Heap} {g : Array GenState} {d : Drawn} {tk : Nat} {os : OsState}
theorem bytes_decode {b : Array UInt8} {t t1 t2 : Tok} {Q : Value → Shared → Prop} (hsz : b.size ≤ 1000)
    (hq : ∀ h' t' tk', (∀ a o, h.get? a = some o → h'.get? a = some o) → Q (.str (decTxt b) t') ⟨h', g, d, tk', os⟩) :
    wpAny (model prog w) A (call (.builtin "bytes.decode") [.bytes b t, .str sAscii t1, .str sSur t2]) Q E ⟨h, g, d, tk, os⟩ := by
  refine wpAny_call_entry FB.slot_bytes_decode (typeIs_bytes _ _ _) FB.entry_bytes_decode ?_ (args_decode3 _ _ _)
  obtain ⟨l⟩ := b
  cases l with
  | nil =>
    rw [decode_entry_nil]
    refine wpAny_bind (wpAny_rule ?_)
    refine wpAny_bind (wpAny_mkStr' ?_)
    have e0 : decTxt #[] = PySem.Str.empty := by simp [decTxt, PySem.Str.empty]
    exact wpAny_pure ⟨_, rfl, e0 ▸ hq _ _ _ fun _ _ e => e⟩
  | cons c cs =>
    rw [decode_entry]
    refine wpAny_bind (wpAny_mkStr' ?_)
    refine wpAny_bind (wpAny_mkStr' ?_)
    refine wpAny_bind (wpAny_mkStr' ?_)
    refine wpAny_bind (wpAny_mkStr' ?_)
    refine wpAny_bind (call_function_entry KBd.kind_text KBd.plain_text KBd.entry_text (KBd.args_text _ _ _ _) ?_)
    show wpAny _ _ (Bytes.bytesLike _ (.bytes _ t) >>= fun r => _) _ _ _
    refine wpAny_bind (wpAny_of_eq KBd.like_eq ?_)
    refine wpAny_bind (wpAny_of_eq KBd.held_eq ?_)
    show wpAny _ _ (_codecs.decodeRoad _ _ sAscii (some sSur) [] >>= fun v => _) _ _ _
    rw [road_ascii]
    refine wpAny_bind (wpAny_bind (run_dec hsz fun h' tk' hk => ?_))
    refine wpAny_mkStr' ?_ ?_
    · exact wpAny_pure ⟨_, rfl, wpAny_pure ⟨_, rfl, hq _ _ _ hk⟩⟩
    · show ((c :: cs).toArray.map decCp).size ≤ _
      rw [sizeLine_eq, Array.size_map]
      exact Nat.le_trans hsz (by omega)

def okCp (c : Nat) : Prop := c < 128 ∨ (0xDC80 ≤ c ∧ c ≤ 0xDCFF)
def encByte (c : Nat) : UInt8 := if c < 128 then c.toUInt8 else (c - 0xDC00).toUInt8
theorem okCp_dec (x : UInt8) : okCp (decCp x) := by
  unfold decCp okCp; have := x.toNat_lt; split <;> omega
theorem encByte_dec (x : UInt8) : encByte (decCp x) = x := by
  unfold encByte decCp
  have := x.toNat_lt
  by_cases h : x.toNat < 128
  · rw [if_pos h, if_pos h]; simp
  · rw [if_neg h, if_neg (by omega)]; simp
theorem enc_dec (b : Array UInt8) : (decTxt b).cps.map encByte = b := by
  simp [decTxt, Function.comp_def, encByte_dec]

theorem run_prefix {α : Type} (p : α → Bool) (l : Array α) (y : α) (hy : l[0]? = some y) (hp : p y = false) :
    let c := (l.findIdx? p).getD l.size
    0 < c ∧ c ≤ l.size ∧ ∀ z ∈ (l.extract 0 c).toList, p z = false := by
  intro c
  cases hf : l.findIdx? p with
  | none =>
    have hc : c = l.size := by simp only [c, hf, Option.getD_none]
    rw [hc]
    rw [Array.findIdx?_eq_none_iff] at hf
    refine ⟨?_, Nat.le_refl _, ?_⟩
    · rcases Nat.eq_zero_or_pos l.size with h | h
      · rw [Array.getElem?_eq_none (by omega)] at hy; cases hy
      · exact h
    · intro z hz
      simp only [Array.extract_size, Array.mem_toList_iff] at hz
      exact hf z hz
  | some k =>
    have hc : c = k := by simp only [c, hf, Option.getD_some]
    rw [hc]
    rw [Array.findIdx?_eq_some_iff_getElem] at hf
    obtain ⟨hk, hpk, hlt⟩ := hf
    refine ⟨?_, Nat.le_of_lt hk, ?_⟩
    · rcases Nat.eq_zero_or_pos k with h | h
      · subst h
        rw [Array.getElem?_eq_getElem hk] at hy; cases hy
        rw [hp] at hpk; cases hpk
      · exact h
    · intro z hz
      rw [Array.mem_toList_iff, Array.mem_iff_getElem] at hz
      obtain ⟨i, hi, rfl⟩ := hz
      simp at hi ⊢
      have := hlt i (by omega)
      simpa using this
end
end Mine
end
section
open PySem PySem.W PyProof.Rows PySem.Calls
set_option maxRecDepth 100000
namespace Mine
open Builtin
theorem enc_entry (x : PySem.Str) (t t1 t2 : Tok) : «str.encode» ⟨[.str x t, .str sAscii t1, .str sSur t2], []⟩ = (_codecs.encodeRoad "str.encode" (.str x t) x sAscii (some sSur) >>= fun v => ret v) := by kernel_rfl
theorem enc_road (x : PySem.Str) (v : Value) : _codecs.encodeRoad "str.encode" v x sAscii (some sSur) = (_codecs.encodeNarrow "str.encode" _codecs.asciiCodec (some sSur) v x >>= fun b => mkBytes b) := by kernel_rfl
theorem sSur_str : ((some sSur : Option PySem.Str).getD (PySem.Str.ofString "strict")).toString = "surrogateescape" := by decide +kernel
section
variable {prog : Program} {w : World} {A : Around} {E : Value → Shared → Prop} {M : Model} {h : Heap} {g : Array GenState} {d : Drawn} {tk : Nat} {os : OsState}
theorem ac_bad (y : Nat) : _codecs.asciiCodec.bad y = decide (y ≥ 128) := rfl
theorem ac_bytes (y : Nat) : _codecs.asciiCodec.bytesOf y = [y.toUInt8] := rfl
theorem fold_clean (l : List Nat) (out : Array UInt8) (hc : ∀ z ∈ l, z < 128) : l.foldl (fun acc y => acc ++ (_codecs.asciiCodec.bytesOf y).toArray) out = out ++ (l.map encByte).toArray := by
  induction l generalizing out with
  | nil => simp
  | cons z l ih =>
    rw [List.foldl_cons, ih _ (fun y hy => hc y (List.mem_cons_of_mem _ hy))]
    have : encByte z = z.toUInt8 := by unfold encByte; rw [if_pos (hc z (List.mem_cons_self ..))]
    simp [ac_bytes, this]
theorem ext_step (a : Array UInt8) (i c : Nat) (hc : i + c ≤ a.size) : a.extract 0 i ++ (a.extract i (i + c)) = a.extract 0 (i + c) := by
  rw [Array.extract_append_extract]; congr 1 <;> omega
theorem takeWhile_all {α : Type} (p : α → Bool) (l : List α) (h : ∀ z ∈ l, p z = true) : l.takeWhile p = l := by
  induction l with
  | nil => rfl
  | cons z l ih => rw [List.takeWhile_cons, h z (List.mem_cons_self ..), if_pos rfl, ih fun y hy => h y (List.mem_cons_of_mem _ hy)]
open _codecs in
theorem run_enc {x : PySem.Str} {v : Value} {Q : Array UInt8 → Shared → Prop} (hx : ∀ c ∈ x.cps.toList, okCp c) (hsz : x.cps.size ≤ 1000) (hq : Q (x.cps.map encByte) ⟨h, g, d, tk, os⟩) :
    wpAny M A (encodeNarrow "str.encode" asciiCodec (some sSur) v x) Q E ⟨h, g, d, tk, os⟩ := by
  unfold encodeNarrow
  dsimp only
  refine wpAny_bind ?_
  rw [Std.Legacy.Range.forIn_eq_forIn_range']
  refine wpAny_forIn_list _ (fun (rest : List Nat) (b' : Nat × Array UInt8 × Faults) s' => s' = ⟨h, g, d, tk, os⟩ ∧ b'.1 ≤ x.cps.size ∧ x.cps.size ≤ b'.1 + rest.length ∧ b'.2.1 = (x.cps.map encByte).extract 0 b'.1) _
    (fun y rest b' s' hI => ?turn) (fun b' s' hI => ?fin) _ _ ⟨rfl, Nat.zero_le _, by simp [Std.Legacy.Range.size, PySem.Str.length], by simp⟩
  case fin =>
    obtain ⟨rfl, hp, hp2, ho⟩ := hI
    obtain ⟨p, out, st⟩ := b'
    dsimp only at hp ho hp2 ⊢
    simp only [List.length_nil, Nat.add_zero] at hp2
    have : p = x.cps.size := by omega
    subst this ho
    have e : (x.cps.map encByte).extract 0 x.cps.size = x.cps.map encByte := by simp
    rw [e]
    exact wpAny_pure hq
  case turn =>
    obtain ⟨rfl, hp, hp2, ho⟩ := hI
    obtain ⟨p, out, st⟩ := b'
    dsimp only at hp ho hp2 ⊢
    simp only [List.length_cons] at hp2
    have hos : out.size ≤ 1000 := by subst ho; simp; omega
    rw [if_neg (by rw [sizeLine_eq]; omega)]
    by_cases hlt : p < x.cps.size
    · rw [Array.getElem?_eq_getElem hlt]
      dsimp only
      have hok := hx x.cps[p] (Array.mem_toList_iff.mpr (Array.getElem_mem hlt))
      have h0 : (x.cps.extract p)[0]? = some x.cps[p] := by rw [Array.getElem?_eq_getElem (by simp; omega)]; simp
      by_cases hb : x.cps[p] < 128
      · have hbad : asciiCodec.bad x.cps[p] = false := by simp [ac_bad]; omega
        rw [if_pos (by rw [hbad]; rfl)]
        obtain ⟨c1, c2, c3⟩ := run_prefix asciiCodec.bad (x.cps.extract p) _ h0 hbad
        generalize (Array.findIdx? asciiCodec.bad (x.cps.extract p)).getD (x.cps.extract p).size = c at c1 c2 c3 ⊢
        simp only [Array.size_extract] at c2
        refine wpAny_pure ⟨rfl, by dsimp only; omega, by dsimp only; omega, ?_⟩
        dsimp only
        rw [← Array.foldl_toList, fold_clean _ _ (fun z hz => ?_)]
        · subst ho
          rw [← ext_step _ p c (by simp; omega)]
          congr 1
          apply Array.ext
          · simp; omega
          · intro i h1 h2
            simp
        · have := c3 z hz
          simpa [ac_bad] using this
      · have hbad : asciiCodec.bad x.cps[p] = true := by simp [ac_bad]; omega
        rw [if_neg (by rw [hbad]; simp), sSur_str]
        refine wpAny_bind (wpAny_rule ?_)
        have hsx : (x.cps.extract p).size = x.cps.size - p := by simp
        obtain ⟨c1, c2, c3⟩ := run_prefix (fun y => !asciiCodec.bad y) (x.cps.extract p) _ h0 (by rw [hbad]; rfl)
        rw [hsx] at c1 c2 c3
        generalize (Array.findIdx? (fun y => !asciiCodec.bad y) (x.cps.extract p)).getD (x.cps.size - p) = c at c1 c2 c3 ⊢
        have hrun : ∀ z ∈ (x.cps.extract p (p + c)).toList, 0xDC80 ≤ z ∧ z ≤ 0xDCFF := by
          intro z hz
          have h1 : z ∈ ((x.cps.extract p).extract 0 c).toList := by
            rw [Array.extract_extract]
            have e1 : min (p + c) x.cps.size = p + c := by omega
            simpa [e1] using hz
          have h2 := c3 z h1
          have h3 : z ∈ x.cps.toList := by
            rw [Array.mem_toList_iff] at hz ⊢
            obtain ⟨i, hi, rfl⟩ := Array.mem_iff_getElem.mp hz
            simp at hi ⊢
          rcases hx z h3 with h4 | h4
          · simp [ac_bad] at h2; omega
          · exact h4
        have htw := takeWhile_all (fun y => decide (0xDC80 ≤ y) && decide (y ≤ 0xDCFF)) (x.cps.extract p (p + c)).toList (fun z hz => by simpa using hrun z hz)
        show wpAny M A (ite ((p + (List.takeWhile (fun y => decide (0xDC80 ≤ y) && decide (y ≤ 0xDCFF)) (x.cps.extract p (p + c)).toList).length == p + c) = true)
          (pure (ForInStep.yield (p + c, out ++ (List.map (fun x => (x - 0xDC00).toUInt8) (List.takeWhile (fun y => decide (0xDC80 ≤ y) && decide (y ≤ 0xDCFF)) (x.cps.extract p (p + c)).toList)).toArray, st))) _) _ _ _
        rw [htw, if_pos (by simp; omega)]
        refine wpAny_pure ⟨rfl, by dsimp only; omega, by dsimp only; omega, ?_⟩
        dsimp only
        subst ho
        rw [← ext_step _ p c (by simp; omega)]
        congr 1
        apply Array.ext
        · simp; omega
        · intro i h1 h2
          have hi3 : i < c := by simp at h1; omega
          have h3 := hrun (x.cps[p + i]'(by omega)) (by rw [Array.mem_toList_iff, Array.mem_iff_getElem]; refine ⟨i, by simp at h1 ⊢; omega, by simp⟩)
          simp only [List.getElem_toArray, List.getElem_map, Array.getElem_toList, Array.getElem_extract, Array.getElem_map]
          unfold encByte
          rw [if_neg (by omega)]
    · have : p = x.cps.size := by omega
      subst this
      rw [Array.getElem?_eq_none (by omega)]
      subst ho
      have e : (x.cps.map encByte).extract 0 x.cps.size = x.cps.map encByte := by simp
      refine wpAny_pure (wpAny_pure ?_)
      dsimp only
      rw [e]; exact hq

theorem str_encode {x : PySem.Str} {t t1 t2 : Tok} {Q : Value → Shared → Prop} (hx : ∀ c ∈ x.cps.toList, okCp c) (hsz : x.cps.size ≤ 1000)
    (hq : ∀ t' tk', Q (.bytes (x.cps.map encByte) t') ⟨h, g, d, tk', os⟩) :
    wpAny (model prog w) A (call (.builtin "str.encode") [.str x t, .str sAscii t1, .str sSur t2]) Q E ⟨h, g, d, tk, os⟩ := by
  refine wpAny_call_entry PySem.F.slot_str_encode (T := "str") rfl PySem.F.entry_str_encode ?_ (PySem.F.args_str_encode_3 _ _ _)
  rw [enc_entry, enc_road]
  refine wpAny_bind (wpAny_bind (run_enc hx hsz ?_))
  refine mkBytes' ?_ (by rw [Array.size_map]; exact hsz)
  exact wpAny_pure ⟨_, rfl, hq _ _⟩
end
end Mine
end
section
open PySem PySem.W PyProof.Rows PySem.Calls
set_option maxRecDepth 100000
namespace Mine
abbrev P : Program := PySem.Challenge.pw_dm0049_03
def fnBody (i : Nat) : List Stmt := match P.main.body[i]? with | some (.FunctionDef _ _ b _ _ _ _ _ _ _) => b | _ => []
def fnScope (i : Nat) : Scope := match P.main.body[i]? with | some (.FunctionDef _ _ _ _ _ _ sc _ _ _) => sc | _ => default
def fnParams (i : Nat) : Arguments := match P.main.body[i]? with | some (.FunctionDef _ a _ _ _ _ _ _ _ _) => a | _ => default
def dbBody : List Stmt := fnBody 1
def dbScope : Scope := fnScope 1
def dbParams : Arguments := fnParams 1
def decBody : List Stmt := match dbBody with | .FunctionDef _ _ b _ _ _ _ _ _ _ :: _ => b | _ => []
def decScope : Scope := match dbBody with | .FunctionDef _ _ _ _ _ _ sc _ _ _ :: _ => sc | _ => default
def decParams : Arguments := match dbBody with | .FunctionDef _ a _ _ _ _ _ _ _ _ :: _ => a | _ => default
def decPos : Pos := match dbBody with | .FunctionDef _ _ _ _ _ _ _ _ _ p :: _ => p | _ => default
abbrev decQ : PySem.Str := PySem.Str.ofString "diff_bytes.<locals>.decode"
def decFd (c : Addr) (pm : Value) : FuncData := defFd (PySem.Str.ofString "decode") decQ decParams decBody decScope mainGlobals .none .none none pm (.ref c) .none
def decObj (c : Addr) (pm : Value) : Obj := { cls := .type "function", data := .func (decFd c pm) }
/-- what every step keeps of the base -/
structure Base (mg mb : PySem.Str → Option Value) (h : Heap) : Prop where
  lim : h.NoLimit
  glob : h.Ns mainGlobals mg
  bui : h.Ns builtinsNs mb
theorem Base.keeps {mg mb : PySem.Str → Option Value} {h h' : Heap} (B : Base mg mb h) (k : ∀ b o, h.get? b = some o → h'.get? b = some o) : Base mg mb h' :=
  ⟨B.lim.keeps k, B.glob.keeps k, B.bui.keeps k⟩
abbrev Grow (h h' : Heap) : Prop := ∀ b o, h.get? b = some o → h'.get? b = some o
theorem Grow.trans {h₁ h₂ h₃ : Heap} (x : Grow h₁ h₂) (y : Grow h₂ h₃) : Grow h₁ h₃ := fun b o e => y b o (x b o e)
theorem Grow.refl (h : Heap) : Grow h h := fun _ _ e => e
theorem Grow.push (h : Heap) (o : Obj) : Grow h (h.push o) := fun _ _ e => Heap.get?_push_of_some _ e

theorem dec_nocell : ∀ x ∈ decScope.names, x.2 ≠ .cell := by decide
theorem dec_s : decScope.names.lookup (PySem.Str.ofString "s") = some .local := by decide
abbrev decEnv (L f c : Addr) (pm : Value) : Env := callEnv (decFd c pm) L f
section
variable {w : World} {A : Around} {E : Value → Shared → Prop} {h : Heap} {g : Array GenState} {d : Drawn} {tk : Nat} {os : OsState} {mg mb : PySem.Str → Option Value} {f c : Addr} {pm : Value}
theorem args2_str {M : Model} {fv : Value} {env : Env} {pos p1 p2 : Pos} {x y : PySem.Str} {k1 k2 : Nat} {Q : Args → Shared → Prop} (hq : Q ⟨[.str x tk, .str y (tk + 1)], []⟩ ⟨h, g, d, tk + 1 + 1, os⟩) :
    wpAny M A (evalArgs fv true (backTo pos (starEach [.Constant (.str x) k1 p1, .Constant (.str y) k2 p2] env)) []) Q E ⟨h, g, d, tk, os⟩ := fun _ _ _ => hq
/-- a call of decode: its frame is laid, its body is run -/
theorem dec_enter {v : Value} {Q : Value → Shared → Prop} (hroom : A.depth < recursionLimit) (B : Base mg mb h) (hf : h.get? f = some (decObj c pm)) (hcd : h.CodeRec (.ref c) decQ)
    (hq : ∀ h₀, h₀.Ns h.objs.size (fun x => [(PySem.Str.ofString "s", v)].lookup x) → Grow h h₀ →
      wpAny (model P w) (A.deeper (decEnv h.objs.size f c pm)) (execs decBody (decEnv h.objs.size f c pm)) (fun fl s' => Q (match fl with | .ret v => v | _ => .none) s')
        (fun e s' => wpAny (model P w) (A.deeper (decEnv h.objs.size f c pm)) (leaving (decEnv h.objs.size f c pm) e) (fun _ s'' => E e s'') E s') ⟨h₀, g, d, tk + 1, os⟩) :
    wpAny (model P w) A (call (.ref f) [v]) Q E ⟨h, g, d, tk, os⟩ := by
  refine wpAny_call (codeAny_call_def (fd := decFd c pm) (binds := [(PySem.Str.ofString "s", v)]) hroom hf rfl B.lim hcd rfl (BindsTo.of_eq (by kernel_rfl)) dec_nocell
    (fun x hx => by rw [List.mem_singleton.mp hx]; exact dec_s) ?_)
  exact hq
theorem dec_bytes {b : Array UInt8} {t : Tok} {Q : Value → Shared → Prop} (hroom : A.depth < recursionLimit) (B : Base mg mb h) (hf : h.get? f = some (decObj c pm)) (hcd : h.CodeRec (.ref c) decQ) (hsz : b.size ≤ 1000)
    (hq : ∀ h' t' tk', Grow h h' → Q (.str (decTxt b) t') ⟨h', g, d, tk', os⟩) :
    wpAny (model P w) A (call (.ref f) [.bytes b t]) Q E ⟨h, g, d, tk, os⟩ := by
  refine dec_enter hroom B hf hcd fun h₀ hn hk => ?_
  refine wpAny_execs_cons (wpAny_Try_except (wpAny_execs_cons (wpAny_Return_some ?_)))
  refine wpAny_Call_method (T := "bytes") (id := "bytes.decode") rfl rfl rfl FB.plainAttrs_bytes FB.slot_bytes_decode FB.type_bytes_decode ?_
  refine wpAny_Name (wpAny_loadName_local rfl rfl hn rfl ⟨typeIs_bytes _ _ _, fun _ e => (nomatch e), ?_⟩)
  refine callWith_builtin rfl (args2_str ?_)
  refine bytes_decode hsz fun h' t' tk' hk' => ?_
  exact hq h' t' tk' (hk.trans hk')
end
end Mine
end
section
open PySem PySem.W PyProof.Rows PySem.Calls
set_option maxRecDepth 100000
namespace Mine
abbrev nB : Nat := 41
/-- objects outside X stay, a young namespace (a frame) up to its slots -/
def KeepS (X : Addr → Prop) (h h' : Heap) : Prop :=
  ∀ b o, ¬ X b → h.get? b = some o → (∃ sl, h'.get? b = some { o with slots := sl }) ∧ ((b < nB ∨ ∀ es n, o.data ≠ .dict es n) → h'.get? b = some o)
abbrev Nil : Addr → Prop := fun _ => False
theorem KeepS.refl (X : Addr → Prop) (h : Heap) : KeepS X h h := fun _ o _ e => ⟨⟨o.slots, e⟩, fun _ => e⟩
theorem KeepS.of_grow {X : Addr → Prop} {h h' : Heap} (k : Grow h h') : KeepS X h h' := fun b o _ e => ⟨⟨o.slots, k b o e⟩, fun _ => k b o e⟩
theorem KeepS.trans {X : Addr → Prop} {h₁ h₂ h₃ : Heap} (x : KeepS X h₁ h₂) (y : KeepS X h₂ h₃) : KeepS X h₁ h₃ := by
  intro b o hb e
  obtain ⟨⟨sl, e1⟩, e2⟩ := x b o hb e
  obtain ⟨⟨sl', e3⟩, _⟩ := y b _ hb e1
  refine ⟨⟨sl', e3⟩, fun hc => (y b o hb (e2 hc)).2 hc⟩
theorem KeepS.mono {X Y : Addr → Prop} {h h' : Heap} (x : KeepS X h h') (hxy : ∀ b, X b → Y b) : KeepS Y h h' := fun b o hb e => x b o (fun q => hb (hxy b q)) e
theorem KeepS.data {X : Addr → Prop} {h h' : Heap} {b : Addr} {o : Obj} (x : KeepS X h h') (hb : ¬ X b) (e : h.get? b = some o) : ∃ o', h'.get? b = some o' ∧ o'.data = o.data ∧ o'.cls = o.cls ∧ o'.dict = o.dict :=
  let ⟨⟨_, e1⟩, _⟩ := x b o hb e; ⟨_, e1, rfl, rfl, rfl⟩
theorem KeepS.get {X : Addr → Prop} {h h' : Heap} {b : Addr} {o : Obj} (x : KeepS X h h') (hb : ¬ X b) (e : h.get? b = some o) (hd : ∀ es n, o.data ≠ .dict es n) : h'.get? b = some o := (x b o hb e).2 (.inr hd)
theorem KeepS.old {X : Addr → Prop} {h h' : Heap} {b : Addr} {o : Obj} (x : KeepS X h h') (hb : ¬ X b) (e : h.get? b = some o) (hd : b < nB) : h'.get? b = some o := (x b o hb e).2 (.inl hd)
theorem KeepS.ns {X : Addr → Prop} {h h' : Heap} {b : Addr} {m : PySem.Str → Option Value} (x : KeepS X h h') (hb : ¬ X b) (hn : h.Ns b m) : h'.Ns b m := by
  obtain ⟨o, es, ep, ho, hd, r⟩ := hn
  obtain ⟨o', ho', hd', _⟩ := x.data hb ho
  exact ⟨o', es, ep, ho', hd'.trans hd, r⟩
theorem KeepS.none {X : Addr → Prop} {h h' : Heap} {b : Addr} (x : KeepS X h h') (hb : ¬ X b) (e : h'.get? b = .none) : h.get? b = .none := by
  cases hq : h.get? b with
  | none => rfl
  | some o => obtain ⟨o', ho', _⟩ := x.data hb hq; rw [e] at ho'; cases ho'
theorem KeepS.base {X : Addr → Prop} {h h' : Heap} {mg mb : PySem.Str → Option Value} (x : KeepS X h h') (h0 : ¬ X 0) (h2 : ¬ X 2) (h3 : ¬ X 3) (B : Base mg mb h) : Base mg mb h' :=
  ⟨let ⟨mc, a, b⟩ := B.lim; ⟨mc, x.ns h2 a, b⟩, x.ns h3 B.glob, x.ns h0 B.bui⟩
theorem KeepS.of_sameBut {X : Addr → Prop} {a : Addr} {h h' : Heap} (k : Heap.SameBut a h h') (ha : X a) : KeepS X h h' := fun b o hb e =>
  have : b ≠ a := fun q => hb (q ▸ ha)
  have e' := (k.2 b this).trans e
  ⟨⟨o.slots, e'⟩, fun _ => e'⟩
theorem KeepS.of_extBut {X : Addr → Prop} {a : Addr} {h h' : Heap} (k : Heap.ExtBut a h h') (ha : X a) : KeepS X h h' := fun b o hb e =>
  have : b ≠ a := fun q => hb (q ▸ ha)
  have e' := k b o this e
  ⟨⟨o.slots, e'⟩, fun _ => e'⟩
/-- a set of addresses that the older heap did not hold may be dropped -/
theorem KeepS.drop {X Y : Addr → Prop} {h₀ h h' : Heap} (x : KeepS X h₀ h) (y : KeepS Y h h') (hy : ∀ b, Y b → ¬ X b → h₀.get? b = .none) : KeepS X h₀ h' := by
  intro b o hb e
  have hnb : ¬ Y b := fun q => by rw [hy b q hb] at e; cases e
  obtain ⟨⟨sl, e1⟩, e2⟩ := x b o hb e
  obtain ⟨⟨sl', e3⟩, _⟩ := y b _ hnb e1
  exact ⟨⟨sl', e3⟩, fun hc => (y b o hnb (e2 hc)).2 hc⟩

def Frs (h : Heap) (l : List Env) : Prop := ∀ env ∈ l, env.scope.kind ≠ .module ∧ ∃ L o es n, env.frame = some L ∧ nB ≤ L ∧ h.get? L = some o ∧ o.data = .dict es n
theorem Frs.keep {X : Addr → Prop} {h h' : Heap} {l : List Env} (F : Frs h l) (k : KeepS X h h') (hx : ∀ env ∈ l, ∀ L, env.frame = some L → ¬ X L) : Frs h' l := by
  intro env he
  obtain ⟨hk, L, o, es, n, hf, hl, ho, hd⟩ := F env he
  obtain ⟨o', ho', hd', _⟩ := k.data (hx env he L hf) ho
  exact ⟨hk, L, o', es, n, hf, hl, ho', hd'.trans hd⟩
theorem Frs.cons {h : Heap} {env : Env} {l : List Env} {L : Addr} {m : PySem.Str → Option Value} (hk : env.scope.kind ≠ .module) (hf : env.frame = some L) (hL : nB ≤ L) (hn : h.Ns L m) (F : Frs h l) : Frs h (env :: l) := by
  intro e he
  rcases List.mem_cons.mp he with rfl | he
  · obtain ⟨o, es, ep, ho, hd, _⟩ := hn
    exact ⟨hk, L, o, es, ep, hf, hL, ho, hd⟩
  · exact F e he
theorem Frs.fun {h : Heap} : ∀ {l : List Env}, Frs h l → h.FunFrames {} l
  | [], _ => trivial
  | env :: l, F => by
    obtain ⟨hk, L, o, es, n, hf, hl, ho, hd⟩ := F env (List.mem_cons_self ..)
    exact ⟨hk, ⟨L, o, hf, rfl, ho, fun vs q => by rw [hd] at q; cases q⟩, Frs.fun fun e he => F e (List.mem_cons_of_mem _ he)⟩
theorem Frs.slots {h h' : Heap} {l : List Env} (F : Frs h l) (k : Heap.SlotsOnly (l.filterMap (·.frame)) h h') : KeepS Nil h h' := by
  intro b o _ e
  refine ⟨k.2.2 b o e, fun hc => ?_⟩
  by_cases hb : b ∈ l.filterMap (·.frame)
  · obtain ⟨env, he, hf⟩ := List.mem_filterMap.mp hb
    obtain ⟨_, L, o', es, n, hf', hl, ho, hd⟩ := F env he
    rw [hf] at hf'; cases hf'
    rw [e] at ho; cases ho
    rcases hc with hc | hc
    · exact absurd hc (Nat.not_lt.mpr hl)
    · exact absurd hd (hc es n)
  · rw [k.2.1 b hb]; exact e
theorem Frs.not_mem {h : Heap} {l : List Env} {b : Addr} {o : Obj} (F : Frs h l) (e : h.get? b = some o) (hd : ∀ es n, o.data ≠ .dict es n) : ∀ env ∈ l, env.frame ≠ some b := by
  intro env he hf
  obtain ⟨_, L, o', es, n, hf', hl, ho, hd'⟩ := F env he
  rw [hf] at hf'; cases hf'
  rw [e] at ho; cases ho
  exact hd es n hd'

/-- an exception that flies (fl: where) -/
structure Flt (h₀ h : Heap) (e : Addr) (cls : Value) (a0 : Option Value × Option Value) (fl : Value) : Prop where
  keep : KeepS Nil h₀ h
  newE : h₀.get? e = none
  obj : ∃ o vs, h.get? e = some o ∧ o.cls = cls ∧ o.data = .fields vs ∧ (vs[0]?, vs[2]?) = a0 ∧ ((vs[1]? = some .none ∧ fl = .none) ∨
    ∃ T oT ts, vs[1]? = some (.ref T) ∧ h₀.get? T = none ∧ T ≠ e ∧ h.get? T = some oT ∧ oT.data = .fields ts ∧ ts[3]? = some fl)
section
variable {M : Model} {A : Around} {E : Value → Shared → Prop} {h₀ h : Heap} {g : Array GenState} {d : Drawn} {tk : Nat} {os : OsState} {e L : Addr} {cls fl : Value} {a0 : Option Value × Option Value} {env : Env} {l : List Env}

theorem note_entry {o : Obj} {vs : Array Value} {head : Value} {hadNext : Bool} {Q : Unit → Shared → Prop} (hfr : A.frames = some (env :: l)) (F : Frs h (env :: l)) (hf : env.frame = some L)
    (k : KeepS Nil h₀ h) (n : h₀.get? e = .none) (he : h.get? e = some o) (hc : o.cls = cls) (hd : o.data = .fields vs) (h0 : (vs[0]?, vs[2]?) = a0) (hsz : 1 < vs.size)
    (hq : ∀ h', Flt h₀ h' e cls a0 (rawInt L) → Frs h' (env :: l) → Q () ⟨h', g, d, tk, os⟩) :
    wpAny M A (do let a ← frameOf env; let pl ← entryPlaceOf L hadNext; let b ← EntryCells.newEntry head a .none (rawInt L) .none pl; setField (.ref e) 1 b) Q E ⟨h, g, d, tk, os⟩ := by
  refine wpAny_bind (wpAny_frameOf_fun hfr F.fun hf fun h₁ hs₁ => ?_)
  refine wpAny_bind (wpAny_entryPlaceOf fun pl hpl => ?_)
  unfold EntryCells.newEntry newFields
  refine wpAny_bind (wpAny_newObj_type ?_ (hpl.sizeOk5 _ _ _ _ _))
  dsimp only
  generalize htb : ({ cls := .type "traceback", dict := none, data := .fields ([head, .ref L, .none, rawInt L, .none] ++ (if pl.isEmpty then List.replicate 6 Value.none else pl)).toArray } : Obj) = otb
  have k1 : KeepS Nil h h₁ := F.slots hs₁
  have he₁ : h₁.get? e = some o := k1.get id he (fun es n q => by rw [hd] at q; cases q)
  have he₂ := Heap.get?_push_of_some otb he₁
  refine wpAny_setField he₂ hd hsz ?_
  have hTe : h₁.objs.size ≠ e := Nat.ne_of_gt (Heap.lt_size he₁)
  have hd₃ := Obj.data_mapFields hd (·.setIfInBounds 1 (Value.ref h₁.objs.size))
  have hT₃ : ((h₁.push otb).update e (Obj.mapFields (·.setIfInBounds 1 (Value.ref h₁.objs.size)))).get? h₁.objs.size = some otb :=
    (Heap.get?_update_other (h₁.push otb) (Obj.mapFields (·.setIfInBounds 1 (Value.ref h₁.objs.size))) (Ne.symm hTe)).trans (Heap.get?_push_size h₁ (by subst htb; rfl))
  have k2 : KeepS (· = e) h₁ ((h₁.push otb).update e (Obj.mapFields (·.setIfInBounds 1 (Value.ref h₁.objs.size)))) :=
    (KeepS.of_grow (Grow.push h₁ otb)).trans (KeepS.of_sameBut (Heap.SameBut.update ..) rfl)
  have k3 : KeepS Nil h₀ h₁ := k.trans k1
  refine hq _ ⟨k3.drop k2 (fun b hb _ => hb ▸ n), n, _, _, Heap.get?_update_self _ he₂ (Obj.isFreed_of_fields hd₃), (Obj.cls_mapFields ..).trans hc, hd₃, ?_, .inr ⟨h₁.objs.size, otb, _, ?_, ?_, hTe, hT₃, by subst htb; rfl, ?_⟩⟩ ?_
  · rw [← h0]; simp
  · simp [hsz]
  · cases hz : h₀.get? h₁.objs.size with
    | none => rfl
    | some o' => obtain ⟨o2, ho2, _⟩ := k3.data id hz; exact absurd (Heap.lt_size ho2) (Nat.lt_irrefl _)
  · first | (simp; done) | (rcases hpl with rfl | ⟨_, _, _, _, _, _, _, rfl⟩ <;> simp)
  · have F1 := F.keep k1 (fun _ _ _ _ => id)
    refine F1.keep k2 (fun env' he' L' hf' hx => ?_)
    subst hx
    exact F1.not_mem he₁ (fun es n q => by rw [hd] at q; cases q) env' he' hf'

theorem note_exc {Q : Unit → Shared → Prop} (hfr : A.frames = some (env :: l)) (F : Frs h (env :: l)) (hf : env.frame = some L) (X : Flt h₀ h e cls a0 .none)
    (hq : ∀ h', Flt h₀ h' e cls a0 (rawInt L) → Frs h' (env :: l) → Q () ⟨h', g, d, tk, os⟩) : wpAny M A (noteFrame (.ref e) env) Q E ⟨h, g, d, tk, os⟩ := by
  obtain ⟨k, n, o, vs, he, hc, hd, h0, hh⟩ := X
  unfold noteFrame
  simp only [hf]
  rcases hh with ⟨h1, _⟩ | ⟨T, oT, ts, h1, hnT, hTe, hT, hdT, h3⟩
  · refine wpAny_bind (wpAny_field he hd h1 ?_)
    rw [if_neg (by decide)]
    exact note_entry hfr F hf k n he hc hd h0 (Array.getElem?_eq_some_iff.mp h1).1 hq
  · refine wpAny_bind (wpAny_field he hd h1 ?_)
    rw [if_pos (show (Value.ref T != Value.none) = true from by simp)]
    refine wpAny_bind (wpAny_field hT hdT h3 ?_)
    rw [if_neg (show ¬ ((Value.none == rawInt L) = true) from by simp [rawInt])]
    refine wpAny_bind (wpAny_setField hT hdT (Array.getElem?_eq_some_iff.mp h3).1 ?_)
    have k2 : KeepS (· = T) h (h.update T (Obj.mapFields (·.setIfInBounds 3 Value.none))) := KeepS.of_sameBut (Heap.SameBut.update ..) rfl
    have he2 : (h.update T (Obj.mapFields (·.setIfInBounds 3 Value.none))).get? e = some o := (Heap.get?_update_other _ _ hTe).trans he
    refine note_entry hfr (F.keep k2 fun env' he' L' hf' hx => ?_) hf (k.drop k2 (fun b hb _ => hb ▸ hnT)) n he2 hc hd h0 (Array.getElem?_eq_some_iff.mp h1).1 hq
    subst hx
    exact F.not_mem hT (fun es n q => by rw [hdT] at q; cases q) env' he' hf'

theorem note_again {Q : Unit → Shared → Prop} (hf : env.frame = some L) (X : Flt h₀ h e cls a0 (rawInt L)) (hq : Q () ⟨h, g, d, tk, os⟩) : wpAny M A (noteFrame (.ref e) env) Q E ⟨h, g, d, tk, os⟩ := by
  obtain ⟨k, n, o, vs, he, hc, hd, h0, hh⟩ := X
  rcases hh with ⟨_, q⟩ | ⟨T, oT, ts, h1, hnT, hTe, hT, hdT, h3⟩
  · cases q
  · exact wpAny_noteFrame_inFlight hf he hd h1 hT hdT h3 hq

theorem set_flight {fr : Option Addr} {Q : Unit → Shared → Prop} (X : Flt h₀ h e cls a0 (rawInt L)) (F : Frs h l)
    (hq : ∀ h', Flt h₀ h' e cls a0 (fr.elim .none fun f => rawInt f) → Frs h' l → Q () ⟨h', g, d, tk, os⟩) : wpAny M A (setFlight (.ref e) fr) Q E ⟨h, g, d, tk, os⟩ := by
  obtain ⟨k, n, o, vs, he, hc, hd, h0, hh⟩ := X
  rcases hh with ⟨_, q⟩ | ⟨T, oT, ts, h1, hnT, hTe, hT, hdT, h3⟩
  · cases q
  · unfold setFlight
    refine wpAny_bind (wpAny_field he hd h1 ?_)
    rw [if_pos (show (Value.ref T != Value.none) = true from by simp)]
    refine wpAny_setField hT hdT (Array.getElem?_eq_some_iff.mp h3).1 ?_
    have k2 : KeepS (· = T) h (h.update T (Obj.mapFields (·.setIfInBounds 3 (fr.elim .none fun f => rawInt f)))) := KeepS.of_sameBut (Heap.SameBut.update ..) rfl
    have hd₃ := Obj.data_mapFields hdT (·.setIfInBounds 3 (fr.elim .none fun f => rawInt f))
    refine hq _ ⟨k.drop k2 (fun b hb _ => hb ▸ hnT), n, o, vs, (Heap.get?_update_other _ _ hTe).trans he, hc, hd, h0, .inr ⟨T, _, _, h1, hnT, hTe, Heap.get?_update_self _ hT (Obj.isFreed_of_fields hd₃), hd₃, ?_⟩⟩ ?_
    · have := (Array.getElem?_eq_some_iff.mp h3).1
      simp [this]
    · refine F.keep k2 fun env' he' L' hf' hx => ?_
      subst hx
      exact F.not_mem hT (fun es n q => by rw [hdT] at q; cases q) env' he' hf'

theorem leave_exc {Q : Unit → Shared → Prop} (hfr : A.frames = some (env :: l)) (F : Frs h (env :: l)) (hf : env.frame = some L) (X : Flt h₀ h e cls a0 .none)
    (hq : ∀ h', Flt h₀ h' e cls a0 .none → Frs h' (env :: l) → Q () ⟨h', g, d, tk, os⟩) : wpAny M A (leaving env (.ref e)) Q E ⟨h, g, d, tk, os⟩ := by
  unfold leaving
  exact wpAny_bind (note_exc hfr F hf X fun h1 X1 F1 => set_flight X1 F1 fun h2 X2 F2 => hq h2 X2 F2)
theorem leave_again {Q : Unit → Shared → Prop} (F : Frs h (env :: l)) (hf : env.frame = some L) (X : Flt h₀ h e cls a0 (rawInt L))
    (hq : ∀ h', Flt h₀ h' e cls a0 .none → Frs h' (env :: l) → Q () ⟨h', g, d, tk, os⟩) : wpAny M A (leaving env (.ref e)) Q E ⟨h, g, d, tk, os⟩ := by
  unfold leaving
  exact wpAny_bind (note_again hf X (set_flight X F fun h2 X2 F2 => hq h2 X2 F2))
end
end Mine
end
section
open PySem PySem.W PyProof.Rows PySem.Calls
set_option maxRecDepth 100000
namespace Mine
abbrev sDec : PySem.Str := PySem.Str.ofString "decode"
theorem miss_none : typeLookup (.type "NoneType") sDec = pure none := by rw [typeLookup_type, builtinLookup_eq_fast]; kernel_rfl
theorem miss_int : typeLookup (.type "int") sDec = pure none := by rw [typeLookup_type, builtinLookup_eq_fast]; kernel_rfl
theorem miss_str : typeLookup (.type "str") sDec = pure none := by rw [typeLookup_type, builtinLookup_eq_fast]; kernel_rfl
theorem miss_list : typeLookup (.type "list") sDec = pure none := by rw [typeLookup_type, builtinLookup_eq_fast]; kernel_rfl
theorem miss_tuple : typeLookup (.type "tuple") sDec = pure none := by rw [typeLookup_type, builtinLookup_eq_fast]; kernel_rfl
section
variable {w : World} {A : Around} {E : Value → Shared → Prop} {h : Heap} {g : Array GenState} {d : Drawn} {tk : Nat} {os : OsState}
theorem attr_gen {v : Value} {T id : String} {Q : Value → Shared → Prop} (hT : ∀ tk', (⟨h, g, d, tk', os⟩ : Shared).TypeIs v T) (slot : Slot T "__getattribute__" id) (f5 : typeLookup (.type T) "__getattr__" = pure none)
    (hcall : ∀ tk' t (Q' : Value → Shared → Prop) (E' : Value → Shared → Prop), (∀ h' tk'' e, Heap.NewAttrErr h h' e v sDec → E' (.ref e) ⟨h', g, d, tk'', os⟩) → wpAny (model P w) A (call (.builtin id) [v, .str sDec t]) Q' E' ⟨h, g, d, tk', os⟩)
    (hq : ∀ h' tk e, Heap.NewAttrErr h h' e v sDec → E (.ref e) ⟨h', g, d, tk, os⟩) : wpAny (model P w) A (getAttr v sDec) Q E ⟨h, g, d, tk, os⟩ := by
  have f1 := sub_AttributeError
  have f3 := slot.lookup
  have f4 := slot.bind v
  unfold getAttr getAttrBy
  repeat (any_goals (first | assumption | exact hT _ | with_reducible refine wpAny_typeOf (hT _) ?_ | ((with_reducible show wpAny _ _ (call (Value.builtin id) _ _) _ _ _); refine hcall _ _ _ _ fun h' tk' e hx => ?_) | wp_step))
  obtain ⟨t', u', he⟩ := hx.there
  repeat (any_goals (first | assumption | wp_step))
  exact hq _ _ _ hx
theorem attr_none {Q : Value → Shared → Prop} (hA : A.handled = none) (hq : ∀ h' tk e, Heap.NewAttrErr h h' e .none sDec → E (.ref e) ⟨h', g, d, tk, os⟩) :
    wpAny (model P w) A (getAttr .none sDec) Q E ⟨h, g, d, tk, os⟩ :=
  attr_gen (fun _ => rfl) F.slot_NoneType_getattribute am_none_getattr_none (fun _ _ _ _ hh => call_meets F.slot_NoneType_getattribute (rfl) F.entry_object_getattribute (F.args_object_getattribute_2 _ _) (meets_getattribute_miss_none sDec _ miss_none) ⟨hA, hh⟩) hq
theorem attr_int {n : Int} {t : Tok} {Q : Value → Shared → Prop} (hA : A.handled = none) (hq : ∀ h' tk e, Heap.NewAttrErr h h' e (.int n t) sDec → E (.ref e) ⟨h', g, d, tk, os⟩) :
    wpAny (model P w) A (getAttr (.int n t) sDec) Q E ⟨h, g, d, tk, os⟩ :=
  attr_gen (fun _ => rfl) F.slot_int_getattribute am_int_getattr_none (fun _ _ _ _ hh => call_meets F.slot_int_getattribute (rfl) am_entry_int_getattribute (F.args_int_getattribute_2 _ _) (meets_getattribute_miss_int n t sDec _ miss_int) ⟨hA, hh⟩) hq
theorem attr_str {x : PySem.Str} {t : Tok} {Q : Value → Shared → Prop} (hA : A.handled = none) (hq : ∀ h' tk e, Heap.NewAttrErr h h' e (.str x t) sDec → E (.ref e) ⟨h', g, d, tk, os⟩) :
    wpAny (model P w) A (getAttr (.str x t) sDec) Q E ⟨h, g, d, tk, os⟩ :=
  attr_gen (fun _ => rfl) F.slot_str_getattribute am_str_getattr_none (fun _ _ _ _ hh => call_meets F.slot_str_getattribute (rfl) F.entry_object_getattribute (F.args_object_getattribute_2 _ _) (meets_getattribute_miss_str x t sDec _ miss_str) ⟨hA, hh⟩) hq
theorem attr_list {a : Addr} {xs : Array Value} {k : Nat} {Q : Value → Shared → Prop} (hx : h.get? a = some { cls := .type "list", data := .seq xs k }) (hA : A.handled = none) (hq : ∀ h' tk e, Heap.NewAttrErr h h' e (.ref a) sDec → E (.ref e) ⟨h', g, d, tk, os⟩) :
    wpAny (model P w) A (getAttr (.ref a) sDec) Q E ⟨h, g, d, tk, os⟩ :=
  attr_gen (fun _ => ⟨_, hx, rfl⟩) F.slot_list_getattribute am_list_getattr_none (fun _ _ _ _ hh => call_meets F.slot_list_getattribute (⟨_, hx, rfl⟩) am_entry_list_getattribute (F.args_list_getattribute_2 _ _) (meets_getattribute_miss_list a xs k #[] sDec _ miss_list (by decide)) ⟨hx, hA, hh⟩) hq
theorem attr_tuple {a : Addr} {xs : Array Value} {k : Nat} {Q : Value → Shared → Prop} (hx : h.get? a = some { cls := .type "tuple", data := .seq xs k }) (hA : A.handled = none) (hq : ∀ h' tk e, Heap.NewAttrErr h h' e (.ref a) sDec → E (.ref e) ⟨h', g, d, tk, os⟩) :
    wpAny (model P w) A (getAttr (.ref a) sDec) Q E ⟨h, g, d, tk, os⟩ :=
  attr_gen (fun _ => ⟨_, hx, rfl⟩) F.slot_tuple_getattribute am_tuple_getattr_none (fun _ _ _ _ hh => call_meets F.slot_tuple_getattribute (⟨_, hx, rfl⟩) am_entry_tuple_getattribute (F.args_tuple_getattribute_2 _ _) (meets_getattribute_miss_tuple a xs k #[] sDec _ miss_tuple (by decide)) ⟨hx, hA, hh⟩) hq

/-- the things that a slot may hold -/
inductive Thing where
  | bytes (b : Array UInt8)
  | none
  | int (n : Nat)
  | str (c : Nat)
  | list (n : Nat)
  | tuple (n : Nat)
def Is (h : Heap) : Value → Thing → Prop
  | .bytes b' _, .bytes b => b' = b
  | .none, .none => True
  | .int i _, .int n => i = (n : Int)
  | .str x _, .str c => x = ⟨#[c]⟩
  | .ref a, .list n => ∃ t k, h.get? a = some { cls := .type "list", data := .seq #[.int (n : Int) t] k }
  | .ref a, .tuple n => ∃ t k, h.get? a = some { cls := .type "tuple", data := .seq #[.int (n : Int) t] k }
  | _, _ => False
theorem Is.keep {X : Addr → Prop} {h h' : Heap} {v : Value} {x : Thing} (k : KeepS X h h') (hv : Is h v x) (hx : ∀ a, v = .ref a → ¬ X a) : Is h' v x := by
  cases v <;> cases x <;> first | exact hv | (obtain ⟨t, n, e⟩ := hv; exact ⟨t, n, k.get (hx _ rfl) e (fun _ _ q => by cases q)⟩)
def Thing.isB : Thing → Bool
  | .bytes _ => true
  | _ => false
def tyName : Thing → String
  | .bytes _ => "bytes" | .none => "NoneType" | .int _ => "int" | .str _ => "str" | .list _ => "list" | .tuple _ => "tuple"

theorem attr_miss {v : Value} {x : Thing} {Q : Value → Shared → Prop} (hv : Is h v x) (hb : x.isB = false) (hA : A.handled = none) (hq : ∀ h' tk e, Heap.NewAttrErr h h' e v sDec → E (.ref e) ⟨h', g, d, tk, os⟩) :
    wpAny (model P w) A (getAttr v sDec) Q E ⟨h, g, d, tk, os⟩ := by
  cases x with
  | bytes b => cases hb
  | none => cases v with | none => exact attr_none hA hq | _ => exact hv.elim
  | int n => cases v with | int => exact attr_int hA hq | _ => exact hv.elim
  | str c => cases v with | str => exact attr_str hA hq | _ => exact hv.elim
  | list n => cases v with | ref a => (obtain ⟨t, n, e⟩ := hv; exact attr_list e hA hq) | _ => exact hv.elim
  | tuple n => cases v with | ref a => (obtain ⟨t, n, e⟩ := hv; exact attr_tuple e hA hq) | _ => exact hv.elim
theorem Is.type {s : Shared} {v : Value} {x : Thing} (hv : Is s.heap v x) : s.TypeIs v (tyName x) := by
  cases v <;> cases x <;> first | exact hv.elim | rfl | (obtain ⟨t, n, e⟩ := hv; exact ⟨_, e, rfl⟩)
theorem ga_of (T : String) (hT : T = "NoneType" ∨ T = "int" ∨ T = "str" ∨ T = "list" ∨ T = "tuple") : PlainAttrs T ∧ typeLookup (.type T) sDec = pure none := by
  rcases hT with rfl | rfl | rfl | rfl | rfl
  · exact ⟨⟨⟨_, F.slot_NoneType_getattribute.lookup, by decide +kernel⟩, am_none_getattr_none⟩, miss_none⟩
  · exact ⟨⟨⟨_, F.slot_int_getattribute.lookup, by decide +kernel⟩, am_int_getattr_none⟩, miss_int⟩
  · exact ⟨⟨⟨_, F.slot_str_getattribute.lookup, by decide +kernel⟩, am_str_getattr_none⟩, miss_str⟩
  · exact ⟨⟨⟨_, F.slot_list_getattribute.lookup, by decide +kernel⟩, am_list_getattr_none⟩, miss_list⟩
  · exact ⟨⟨⟨_, F.slot_tuple_getattribute.lookup, by decide +kernel⟩, am_tuple_getattr_none⟩, miss_tuple⟩
theorem method_miss {v : Value} {x : Thing} {pl : Sem Bool} {Q : Value × List Value → Shared → Prop} (hv : Is h v x) (hb : x.isB = false) (hA : A.handled = none) (hq : ∀ h' tk e, Heap.NewAttrErr h h' e v sDec → E (.ref e) ⟨h', g, d, tk, os⟩) :
    wpAny (model P w) A (getMethod v sDec pl) Q E ⟨h, g, d, tk, os⟩ := by
  obtain ⟨pa, hm⟩ := ga_of (tyName x) (by cases x <;> simp_all [tyName, Thing.isB])
  obtain ⟨ga, hg, hcan⟩ := pa.ga
  have hT : Shared.TypeIs ⟨h, g, d, tk, os⟩ v (tyName x) := Is.type hv
  unfold getMethod
  refine wpAny_bind (wpAny_specialOf hT hg ?_)
  show wpAny _ A (if (Manifest.canonical ga != "object.__getattribute__") = true then _ else _) Q E _
  rw [hcan, if_neg Bool.false_ne_true]
  refine wpAny_bind (wpAny_specialOf hT pa.noGetattr ?_)
  refine wpAny_bind (wpAny_specialOf hT hm ?_)
  exact wpAny_bind (attr_miss hv hb hA hq)
end
end Mine
end
section
open PySem PySem.W PyProof.Rows PySem.Calls
set_option maxRecDepth 100000
namespace Mine
structure Names (mg mb : PySem.Str → Option Value) : Prop where
  db : mg (PySem.Str.ofString "diff_bytes") = some (.ref 22)
  oc : mg (PySem.Str.ofString "_law_octets") = some (.ref 27)
  ot : mg (PySem.Str.ofString "_law_other") = some (.ref 34)
  no : ∀ x : PySem.Str, x ∈ ([PySem.Str.ofString "type", PySem.Str.ofString "AttributeError", PySem.Str.ofString "TypeError", PySem.Str.ofString "list", PySem.Str.ofString "map", PySem.Str.ofString "range", PySem.Str.ofString "len", PySem.Str.ofString "next", PySem.Str.ofString "str", PySem.Str.ofString "iter", PySem.Str.ofString "bytes", PySem.Str.ofString "chr"] : List PySem.Str) → mg x = none
  bu : ∀ x : PySem.Str, x ≠ PySem.Str.ofString "__name__" → mb x = bootBuiltins x
def reprOf : Thing → PySem.Str
  | .bytes _ => PySem.Str.empty
  | .none => PySem.Str.ofString "None"
  | .int n => PySem.Str.ofString (toString (n : Int))
  | .str c => reprText ⟨#[c]⟩
  | .list n => listText [PySem.Str.ofString (toString (n : Int))]
  | .tuple n => tupleText [PySem.Str.ofString (toString (n : Int))]
def dueOf (x : Thing) : PySem.Str := PySem.Str.empty ++ PySem.Str.ofString "all arguments must be bytes, not " ++ PySem.Str.ofString (tyName x) ++ PySem.Str.ofString " (" ++ reprOf x ++ PySem.Str.ofString ")"
def Thing.ok : Thing → Prop
  | .bytes b => b.size ≤ 2
  | .none => True
  | .int n | .list n | .tuple n => n < 100
  | .str c => 97 ≤ c ∧ c < 123
theorem repr_len (x : Thing) (hx : x.ok) : (reprOf x).length ≤ 40 := by
  have h1 : ∀ n : Nat, n < 100 → (PySem.Str.ofString (toString (n : Int))).length ≤ 40 ∧ (listText [PySem.Str.ofString (toString (n : Int))]).length ≤ 40 ∧ (tupleText [PySem.Str.ofString (toString (n : Int))]).length ≤ 40 := by decide +kernel
  have h2 : ∀ c < 123, (reprText ⟨#[c]⟩).length ≤ 40 := by decide +kernel
  cases x with
  | bytes b => exact Nat.zero_le _
  | none => decide +kernel
  | int n => exact (h1 n hx).1
  | str c => exact h2 c hx.2
  | list n => exact (h1 n hx).2.1
  | tuple n => exact (h1 n hx).2.2
theorem ty_len (x : Thing) : (PySem.Str.ofString (tyName x)).length ≤ 10 := by
  have : ∀ s ∈ ["bytes", "NoneType", "int", "str", "list", "tuple"], (PySem.Str.ofString s).length ≤ 10 := by decide +kernel
  exact this _ (by cases x <;> simp [tyName])
section
variable {w : World} {A : Around} {E : Value → Shared → Prop} {h : Heap} {g : Array GenState} {d : Drawn} {tk : Nat} {os : OsState} {mg mb : PySem.Str → Option Value}
theorem log_small (n : Nat) (h : n < 100) : ((n : Int)).natAbs.log2 < 1920 := by
  have : ∀ n : Nat, n < 100 → ((n : Int)).natAbs.log2 < 1920 := by decide +kernel
  exact this n h
theorem repr_thing {v : Value} {x : Thing} {Q : Value → Shared → Prop} (hv : Is h v x) (hb : x.isB = false) (ho : x.ok) (hg : A.guards = some []) (hu : A.units + 10 < cLine)
    (hq : ∀ h' u tk, Grow h h' → Q (.str (reprOf x) u) ⟨h', g, d, tk, os⟩) : wpAny (model P w) A (pyReprObj v) Q E ⟨h, g, d, tk, os⟩ := by
  have hl := repr_len x ho
  cases x with
  | bytes b => cases hb
  | none => cases v with | none => exact pyReprObj_none (hq _ _ _ (Grow.refl h)) | _ => exact hv.elim
  | int n => cases v with | int i t => (cases (show i = (n : Int) from hv); exact pyReprObj_int (log_small n ho) (hq _ _ _ (Grow.refl h))) | _ => exact hv.elim
  | str c => cases v with | str y t => (cases (show y = ⟨#[c]⟩ from hv); exact wpAny_pyReprObj_str (hq _ _ _ (Grow.refl h)) (by rw [sizeLine_eq]; exact Nat.le_trans hl (by omega))) | _ => exact hv.elim
  | list n =>
    cases v with
    | ref a =>
      obtain ⟨t, k, e⟩ := hv
      refine wpAny_pyReprObj_list (ts := [PySem.Str.ofString (toString (n : Int))]) ⟨_, e, rfl⟩ hg (fun _ _ _ hm => nomatch hm) (by omega) e rfl rfl (fun i y hy => ?_) (fun h' u tk' hk => hq h' u tk' hk) (hsz := by rw [sizeLine_eq]; exact Nat.le_trans hl (by omega))
      match i, hy with
      | 0, hy => cases hy; exact ⟨_, rfl, ReprIs.int t (log_small n ho)⟩
      | i + 1, hy => simp at hy
    | _ => exact hv.elim
  | tuple n =>
    cases v with
    | ref a =>
      obtain ⟨t, k, e⟩ := hv
      exact wpAny_pyReprObj_tuple (ts := [PySem.Str.ofString (toString (n : Int))]) ⟨_, e, rfl⟩ hg (fun _ hm => nomatch hm) (by omega) e rfl (.cons (ReprIs.int t (log_small n ho)) .nil) (fun u tk' => hq _ _ _ (Grow.refl h)) (by rw [sizeLine_eq]; exact Nat.le_trans hl (by omega))
    | _ => exact hv.elim
end
end Mine
end
section
open PySem PySem.W PyProof.Rows PySem.Calls
set_option maxRecDepth 100000
namespace Mine
/-- a TypeError with this text, on its way -/
def Raised (h₀ h : Heap) (e : Addr) (msg : PySem.Str) : Prop :=
  ∃ hm t tn c2, KeepS Nil h₀ hm ∧ h₀.get? e = none ∧ Flt hm h e (.type "TypeError") (some (.ref t), c2) .none ∧ hm.get? t = some { cls := .type "tuple", data := .seq #[.str msg tn] }
theorem tn_NoneType {prog : Program} {w : World} {A : Around} {E : Value → Shared → Prop} {h : Heap} {g : Array GenState} {d : Drawn} {tk : Nat} {os : OsState} {L : Addr} {m : PySem.Str → Option Value} {Q : Value → Shared → Prop} (hn : h.Ns L m) (hq : ∀ t u, Q (.str (PySem.Str.ofString "NoneType") t) ⟨h, g, d, u, os⟩) :
    wpAny (model prog w) A (getAttr (.type "NoneType") (PySem.Str.ofString "__name__") true) Q E ⟨h, g, d, tk, os⟩ := by
  have e1 : kitMeta "NoneType" = true := by kernel_rfl
  have e2 : Manifest.isStub "NoneType" = false := by decide +kernel
  have e3 : findCls [] (.type "NoneType") (.type "type") (PySem.Str.ofString "__name__") = some (.get (.builtin "getset_descriptor.__get__") (.builtin "type.__name__") (.type "NoneType") (.type "type")) := by kernel_rfl
  have e4 : ktynFast "NoneType" = "NoneType" := by decide +kernel
  have e5 : (PySem.Str.ofString "NoneType").length ≤ sizeLine := by decide +kernel
  exact ktyn_attr (K := []) (T := "NoneType") (q := "NoneType") (h₀ := {}) (L := L) (m := m) ⟨hn, fun _ _ q => (nomatch q), Nat.zero_le _⟩ (fun _ _ q => (nomatch q)) e1 e2 e3 e4 e5 hq
theorem tn_int {prog : Program} {w : World} {A : Around} {E : Value → Shared → Prop} {h : Heap} {g : Array GenState} {d : Drawn} {tk : Nat} {os : OsState} {L : Addr} {m : PySem.Str → Option Value} {Q : Value → Shared → Prop} (hn : h.Ns L m) (hq : ∀ t u, Q (.str (PySem.Str.ofString "int") t) ⟨h, g, d, u, os⟩) :
    wpAny (model prog w) A (getAttr (.type "int") (PySem.Str.ofString "__name__") true) Q E ⟨h, g, d, tk, os⟩ := by
  have e1 : kitMeta "int" = true := by kernel_rfl
  have e2 : Manifest.isStub "int" = false := by decide +kernel
  have e3 : findCls [] (.type "int") (.type "type") (PySem.Str.ofString "__name__") = some (.get (.builtin "getset_descriptor.__get__") (.builtin "type.__name__") (.type "int") (.type "type")) := by kernel_rfl
  have e4 : ktynFast "int" = "int" := by decide +kernel
  have e5 : (PySem.Str.ofString "int").length ≤ sizeLine := by decide +kernel
  exact ktyn_attr (K := []) (T := "int") (q := "int") (h₀ := {}) (L := L) (m := m) ⟨hn, fun _ _ q => (nomatch q), Nat.zero_le _⟩ (fun _ _ q => (nomatch q)) e1 e2 e3 e4 e5 hq
theorem tn_str {prog : Program} {w : World} {A : Around} {E : Value → Shared → Prop} {h : Heap} {g : Array GenState} {d : Drawn} {tk : Nat} {os : OsState} {L : Addr} {m : PySem.Str → Option Value} {Q : Value → Shared → Prop} (hn : h.Ns L m) (hq : ∀ t u, Q (.str (PySem.Str.ofString "str") t) ⟨h, g, d, u, os⟩) :
    wpAny (model prog w) A (getAttr (.type "str") (PySem.Str.ofString "__name__") true) Q E ⟨h, g, d, tk, os⟩ := by
  have e1 : kitMeta "str" = true := by kernel_rfl
  have e2 : Manifest.isStub "str" = false := by decide +kernel
  have e3 : findCls [] (.type "str") (.type "type") (PySem.Str.ofString "__name__") = some (.get (.builtin "getset_descriptor.__get__") (.builtin "type.__name__") (.type "str") (.type "type")) := by kernel_rfl
  have e4 : ktynFast "str" = "str" := by decide +kernel
  have e5 : (PySem.Str.ofString "str").length ≤ sizeLine := by decide +kernel
  exact ktyn_attr (K := []) (T := "str") (q := "str") (h₀ := {}) (L := L) (m := m) ⟨hn, fun _ _ q => (nomatch q), Nat.zero_le _⟩ (fun _ _ q => (nomatch q)) e1 e2 e3 e4 e5 hq
theorem tn_list {prog : Program} {w : World} {A : Around} {E : Value → Shared → Prop} {h : Heap} {g : Array GenState} {d : Drawn} {tk : Nat} {os : OsState} {L : Addr} {m : PySem.Str → Option Value} {Q : Value → Shared → Prop} (hn : h.Ns L m) (hq : ∀ t u, Q (.str (PySem.Str.ofString "list") t) ⟨h, g, d, u, os⟩) :
    wpAny (model prog w) A (getAttr (.type "list") (PySem.Str.ofString "__name__") true) Q E ⟨h, g, d, tk, os⟩ := by
  have e1 : kitMeta "list" = true := by kernel_rfl
  have e2 : Manifest.isStub "list" = false := by decide +kernel
  have e3 : findCls [] (.type "list") (.type "type") (PySem.Str.ofString "__name__") = some (.get (.builtin "getset_descriptor.__get__") (.builtin "type.__name__") (.type "list") (.type "type")) := by kernel_rfl
  have e4 : ktynFast "list" = "list" := by decide +kernel
  have e5 : (PySem.Str.ofString "list").length ≤ sizeLine := by decide +kernel
  exact ktyn_attr (K := []) (T := "list") (q := "list") (h₀ := {}) (L := L) (m := m) ⟨hn, fun _ _ q => (nomatch q), Nat.zero_le _⟩ (fun _ _ q => (nomatch q)) e1 e2 e3 e4 e5 hq
theorem tn_tuple {prog : Program} {w : World} {A : Around} {E : Value → Shared → Prop} {h : Heap} {g : Array GenState} {d : Drawn} {tk : Nat} {os : OsState} {L : Addr} {m : PySem.Str → Option Value} {Q : Value → Shared → Prop} (hn : h.Ns L m) (hq : ∀ t u, Q (.str (PySem.Str.ofString "tuple") t) ⟨h, g, d, u, os⟩) :
    wpAny (model prog w) A (getAttr (.type "tuple") (PySem.Str.ofString "__name__") true) Q E ⟨h, g, d, tk, os⟩ := by
  have e1 : kitMeta "tuple" = true := by kernel_rfl
  have e2 : Manifest.isStub "tuple" = false := by decide +kernel
  have e3 : findCls [] (.type "tuple") (.type "type") (PySem.Str.ofString "__name__") = some (.get (.builtin "getset_descriptor.__get__") (.builtin "type.__name__") (.type "tuple") (.type "type")) := by kernel_rfl
  have e4 : ktynFast "tuple" = "tuple" := by decide +kernel
  have e5 : (PySem.Str.ofString "tuple").length ≤ sizeLine := by decide +kernel
  exact ktyn_attr (K := []) (T := "tuple") (q := "tuple") (h₀ := {}) (L := L) (m := m) ⟨hn, fun _ _ q => (nomatch q), Nat.zero_le _⟩ (fun _ _ q => (nomatch q)) e1 e2 e3 e4 e5 hq
section
variable {w : World} {A : Around} {E : Value → Shared → Prop} {h : Heap} {g : Array GenState} {d : Drawn} {tk : Nat} {os : OsState} {mg mb : PySem.Str → Option Value} {f c : Addr} {pm : Value} {l : List Env}
theorem flt_of {h₀ h h' : Heap} {e : Addr} {v : Value} (k : KeepS Nil h₀ h) (x : Heap.NewAttrErr h h' e v sDec) : ∃ t, Flt h₀ h' e (.type "AttributeError") (some t, some .none) .none := by
  obtain ⟨t, u, he⟩ := x.there
  refine ⟨t, ⟨k.trans (.of_grow x.keeps), ?_, _, _, he, rfl, rfl, rfl, .inl ⟨rfl, rfl⟩⟩⟩
  cases hq : h₀.get? e with
  | none => rfl
  | some o => obtain ⟨o', ho', _⟩ := k.data id hq; rw [x.new] at ho'; cases ho'
theorem set_flight_none {h₀ : Heap} {e : Addr} {cls fl : Value} {a0 : Option Value × Option Value} {M : Model} {Q : Unit → Shared → Prop} (X : Flt h₀ h e cls a0 fl) (F : Frs h l)
    (hq : ∀ h', Flt h₀ h' e cls a0 .none → Frs h' l → Q () ⟨h', g, d, tk, os⟩) : wpAny M A (setFlight (.ref e) none) Q E ⟨h, g, d, tk, os⟩ := by
  obtain ⟨k, n, o, vs, he, hc, hd, h0, hh⟩ := X
  rcases hh with ⟨h1, q⟩ | ⟨T, oT, ts, h1, hnT, hTe, hT, hdT, h3⟩
  · unfold setFlight
    refine wpAny_bind (wpAny_field he hd h1 ?_)
    rw [if_neg (by simp)]
    exact wpAny_pure (hq h ⟨k, n, o, vs, he, hc, hd, h0, .inl ⟨h1, rfl⟩⟩ F)
  · unfold setFlight
    refine wpAny_bind (wpAny_field he hd h1 ?_)
    rw [if_pos (show (Value.ref T != Value.none) = true from by simp)]
    refine wpAny_setField hT hdT (Array.getElem?_eq_some_iff.mp h3).1 ?_
    have k2 : KeepS (· = T) h (h.update T (Obj.mapFields (·.setIfInBounds 3 Value.none))) := KeepS.of_sameBut (Heap.SameBut.update ..) rfl
    have hd₃ := Obj.data_mapFields hdT (·.setIfInBounds 3 Value.none)
    refine hq _ ⟨k.drop k2 (fun b hb _ => hb ▸ hnT), n, o, vs, (Heap.get?_update_other _ _ hTe).trans he, hc, hd, h0, .inr ⟨T, _, _, h1, hnT, hTe, Heap.get?_update_self _ hT (Obj.isFreed_of_fields hd₃), hd₃, ?_⟩⟩ ?_
    · have := (Array.getElem?_eq_some_iff.mp h3).1
      simp [this]
    · refine F.keep k2 fun env' he' L' hf' hx => ?_
      subst hx
      exact F.not_mem hT (fun es n q => by rw [hdT] at q; cases q) env' he' hf'

theorem name_bui {M : Model} {env : Env} {x : PySem.Str} {pos : Pos} {v : Value} {Q : Value → Shared → Prop} (N : Names mg mb) (B : Base mg mb h) (hk : env.scope.kind = .function) (hg : env.globals = mainGlobals) (hb : env.builtins = builtinsNs)
    (hx : env.kindOf x = some .globalImplicit) (hno : mg x = none) (hne : x ≠ PySem.Str.ofString "__name__") (hv : bootBuiltins x = some v) (hd : (x == ("__debug__" : PySem.Str)) = false) (hq : Q v ⟨h, g, d, tk, os⟩) :
    wpAny M A (eval (.Name x pos) env) Q E ⟨h, g, d, tk, os⟩ :=
  Name_function_global hk hx (loadGlobal_builtin (hg ▸ B.glob) hno (hb ▸ B.bui) ((N.bu x hne).trans hv) hq) hd

def decMsg : Expr := match decBody with | [.Try _ [.ExceptHandler _ _ (.Assign _ v _ :: _) _] _ _ _] => v | _ => .Constant .none 0 default
theorem ty_name {x : Thing} {L : Addr} {m : PySem.Str → Option Value} {Q : Value → Shared → Prop} (hn : h.Ns L m) (hb : x.isB = false) (hq : ∀ t u, Q (.str (PySem.Str.ofString (tyName x)) t) ⟨h, g, d, u, os⟩) :
    wpAny (model P w) A (getAttr (.type (tyName x)) (PySem.Str.ofString "__name__") true) Q E ⟨h, g, d, tk, os⟩ := by
  cases x with
  | bytes b => cases hb
  | none => exact tn_NoneType hn hq
  | int n => exact tn_int hn hq
  | str n => exact tn_str hn hq
  | list n => exact tn_list hn hq
  | tuple n => exact tn_tuple hn hq
end
end Mine
end
section
open PySem PySem.W PyProof.Rows PySem.Calls
set_option maxRecDepth 100000
namespace Mine
section
variable {w : World} {A : Around} {E : Value → Shared → Prop} {h : Heap} {g : Array GenState} {d : Drawn} {tk : Nat} {os : OsState} {mg mb : PySem.Str → Option Value} {f c : Addr} {pm : Value} {l : List Env}
theorem boot_type : bootBuiltins (PySem.Str.ofString "type") = some (.type "type") := by decide +kernel
theorem nb_len (a b : PySem.Str) : (a ++ b).length = a.length + b.length := PySem.Str.length_append a b
theorem fmt_str {M : Program} {y : PySem.Str} {t : Tok} {Q : Value → Shared → Prop} (hs : y.length ≤ sizeLine) (hq : ∀ t' u, Q (.str y t') ⟨h, g, d, u, os⟩) : wpAny (model M w) A (formatField (.str y t) PySem.Str.empty) Q E ⟨h, g, d, tk, os⟩ :=
  wpAny_formatField_str (hq _ _) (hq _ _) hs
theorem ty_nb (x : Thing) : (Value.type (tyName x) == Value.type "builtin_function_or_method") = false := by
  have : ∀ s ∈ ["bytes", "NoneType", "int", "str", "list", "tuple"], (Value.type s == Value.type "builtin_function_or_method") = false := by decide +kernel
  exact this _ (by cases x <;> simp [tyName])
theorem dec_msg {v : Value} {x : Thing} {L : Addr} {m : PySem.Str → Option Value} {Q : Value → Shared → Prop} (N : Names mg mb) (B : Base mg mb h) (hg : A.guards = some []) (hu : A.units + 30 < cLine)
    (hn : h.Ns L m) (hm : m (PySem.Str.ofString "s") = some v) (hv : Is h v x) (hb : x.isB = false) (ho : x.ok)
    (hq : ∀ h' u tk, Grow h h' → Q (.str (dueOf x) u) ⟨h', g, d, tk, os⟩) :
    wpAny (model P w) A (eval decMsg (decEnv L f c pm)) Q E ⟨h, g, d, tk, os⟩ := by
  have l1 := repr_len x ho
  have l2 := ty_len x
  have c1 : (PySem.Str.ofString "all arguments must be bytes, not ").length = 33 := by decide +kernel
  have c2 : (PySem.Str.ofString " (").length = 2 := by decide +kernel
  have c3 : (PySem.Str.ofString ")").length = 1 := by decide +kernel
  have c4 : PySem.Str.empty.length = 0 := rfl
  have bnd : ∀ y : PySem.Str, y.length ≤ 1000 → y.length ≤ sizeLine := fun y hy => by rw [sizeLine_eq]; omega
  show wpAny _ _ (eval (.JoinedStr (_ :: _ :: _) _) _) _ _ _
  refine wpAny_JoinedStr ?_
  refine Joins_cons (wpAny_Constant_str ⟨_, _, rfl, bnd _ (by simp only [nb_len]; omega), ?_⟩)
  refine Joins_cons (wpAny_FormattedValue_s ?_)
  -- type(s).__name__
  rw [arm_eval_Attribute]
  refine wpAny_bind (?_ : wpAny _ _ (eval _ _) _ _ _)
  refine wpAny_Call_NameR ?_
  refine name_bui N B rfl rfl rfl (by rfl) (N.no _ (by decide)) (by decide) boot_type (by decide) ?_
  refine PyProof.Rows.callWith_type rfl (evalArgs_plain ?_)
  refine spliced_cons ?_
  refine wpAny_Name (wpAny_loadName_local rfl rfl hn hm ?_)
  refine spliced_nil ?_
  refine call_type_of (Tx := tyName x) (Is.type hv) (ty_nb x) ?_
  refine wpAny_bind (wpAny_standAt (wpAny_bind (wpAny_holding (ty_name hn hb fun t1 u1 => ?_))))
  refine wpAny_bind (wpAny_pure (wpAny_pure ?_))
  refine SB.convS_str (fun t2 u2 => ?_) (bnd _ (by omega))
  refine fmt_str (bnd _ (by omega)) fun t2 u2 => ?_
  refine ⟨_, _, rfl, bnd _ (by simp only [nb_len]; omega), ?_⟩
  refine Joins_cons (wpAny_Constant_str ⟨_, _, rfl, bnd _ (by simp only [nb_len]; omega), ?_⟩)
  refine Joins_cons (wpAny_FormattedValue_repr ?_)
  refine wpAny_Name (wpAny_loadName_local rfl rfl hn hm ?_)
  refine repr_thing hv hb ho hg (by omega) fun h1 u3 tk3 hk => ?_
  refine fmt_str (bnd _ (by omega)) fun t3 u4 => ?_
  refine ⟨_, _, rfl, bnd _ (by simp only [nb_len]; omega), ?_⟩
  refine Joins_cons (wpAny_Constant_str ⟨_, _, rfl, bnd _ (by simp only [nb_len]; omega), ?_⟩)
  refine Joins_nil ⟨bnd _ (by simp only [nb_len]; omega), ?_⟩
  exact hq h1 _ _ hk
end
end Mine
end
section
open PySem PySem.W PyProof.Rows PySem.Calls
set_option maxRecDepth 100000
namespace Mine
theorem sub_te_be : isSubtype (.type "TypeError") (.type "BaseException") = pure true := by rw [isSubtype_type]; kernel_rfl
theorem sub_ae_be : isSubtype (.type "AttributeError") (.type "BaseException") = pure true := by rw [isSubtype_type]; kernel_rfl
theorem boot_TypeError : bootBuiltins (PySem.Str.ofString "TypeError") = some (.type "TypeError") := by decide +kernel
theorem boot_AttributeError : bootBuiltins (PySem.Str.ofString "AttributeError") = some (.type "AttributeError") := by decide +kernel
theorem unchain_entry : entryFor table "proto.unchain" = some Builtin.«proto.unchain» := entryFor_of_tree (by kernel_rfl)
def decRaise : Stmt := match decBody with | [.Try _ [.ExceptHandler _ _ (_ :: r :: _) _] _ _ _] => r | _ => .Pass default
section
variable {w : World} {A : Around} {E : Value → Shared → Prop} {h : Heap} {g : Array GenState} {d : Drawn} {tk : Nat} {os : OsState} {mg mb : PySem.Str → Option Value} {f c : Addr} {pm : Value} {l : List Env} {M : Model} {e : Addr}
theorem setField_obj {cls : Value} {vs : Array Value} {i : Nat} {x : Value} {Q : Unit → Shared → Prop}
    (he : h.get? e = some { cls := cls, data := .fields vs }) (hi : i < vs.size)
    (hq : ∀ h', Heap.SameBut e h h' → h'.get? e = some { cls := cls, data := .fields (vs.setIfInBounds i x) } → Q () ⟨h', g, d, tk, os⟩) : wpAny M A (setField (.ref e) i x) Q E ⟨h, g, d, tk, os⟩ :=
  wpAny_setField (s := ⟨h, g, d, tk, os⟩) he rfl hi (hq _ (Heap.SameBut.update ..) (by rw [Heap.get?_update_self _ he rfl]; rfl))
theorem isType_exc {o : Obj} {vs : Array Value} {Q : Bool → Shared → Prop} (he : h.get? e = some o) (hd : o.data = .fields vs) (hq : Q false ⟨h, g, d, tk, os⟩) : wpAny M A (isType (.ref e)) Q E ⟨h, g, d, tk, os⟩ := by
  unfold isType loadHead
  refine wpAny_bind (wpAny_loadPart he ?_)
  rw [hd]
  exact wpAny_pure hq
theorem excFrom {o : Obj} {vs : Array Value} {T msg : String} {Q : Value → Shared → Prop} (he : h.get? e = some o) (hc : o.cls = .type T) (hd : o.data = .fields vs) (hT : isSubtype (.type T) (.type "BaseException") = pure true)
    (hq : Q (.ref e) ⟨h, g, d, tk, os⟩) : wpAny M A (excFromValue (.ref e) msg) Q E ⟨h, g, d, tk, os⟩ := by
  unfold excFromValue isExcClass
  refine wpAny_bind (wpAny_bind (isType_exc he hd ?_))
  refine wpAny_pure ?_
  rw [if_neg (by simp)]
  refine wpAny_bind (wpAny_isInstance (tyRef he hc) hT ?_)
  exact wpAny_pure hq
theorem freed_none {h : Heap} {e : Addr} {o : Obj} (he : h.get? e = some o) : (h.update e fun o => { o with data := .freed }).get? e = none := by
  have := Heap.lt_size he
  unfold Heap.update Heap.get?
  obtain ⟨objs, life⟩ := h
  simp only [Array.getElem?_modify]
  have h2 : e < objs.size := this
  simp [h2]
theorem raise_from {L x1 : Addr} {o1 : Obj} {vs1 : Array Value} {m : PySem.Str → Option Value} {msg : PySem.Str} {tm : Tok} {Q : Flow → Shared → Prop} (N : Names mg mb) (B : Base mg mb h)
    (hn : h.Ns L m) (hm1 : m (PySem.Str.ofString "msg") = some (.str msg tm)) (hm2 : m (PySem.Str.ofString "err") = some (.ref x1)) (hA : A.handled = some (.ref x1))
    (h1 : h.get? x1 = some o1) (hc1 : o1.cls = .type "AttributeError") (hd1 : o1.data = .fields vs1) (h12 : vs1[2]? = some .none)
    (hq : ∀ h' e2 hm t, KeepS Nil h hm → h.get? e2 = none → Flt hm h' e2 (.type "TypeError") (some (.ref t), some (.ref x1)) .none → hm.get? t = some { cls := .type "tuple", data := .seq #[.str msg tm] } → KeepS Nil h h' →
      ∀ tk', E (.ref e2) ⟨h', g, d, tk', os⟩) :
    wpAny (model P w) A (exec decRaise (decEnv L f c pm)) Q E ⟨h, g, d, tk, os⟩ := by
  show wpAny _ _ (exec (.Raise (some (.Call (.Name _ _) _ _ _)) (some (.Name _ _)) _) _) _ _ _
  rw [arm_exec_Raise]
  refine wpAny_bind (wpAny_standAt ?_)
  unfold raiseStmt
  show wpAny _ _ ((do let v ← eval _ _; standAt _; pure v) >>= _) _ _ _
  refine wpAny_bind (wpAny_bind ?_)
  refine wpAny_Call_NameR ?_
  refine name_bui N B rfl rfl rfl (by rfl) (N.no _ (by decide)) (by decide) boot_TypeError (by decide) ?_
  refine PyProof.Rows.callWith_type rfl (evalArgs_plain ?_)
  refine spliced_cons ?_
  refine wpAny_Name (wpAny_loadName_local rfl rfl hn hm1 ?_)
  refine spliced_nil ?_
  refine wpAny_call_exc F.excCall_TypeError fun h2 e2 mk => ?_
  obtain ⟨kp, nw, t, ht, htn, htt⟩ := mk
  refine wpAny_bind (wpAny_standAt (wpAny_pure ?_))
  have kg : KeepS Nil h h2 := .of_grow kp
  have hn2 := kg.ns id hn
  refine wpAny_bind ?_
  refine wpAny_holding (wpAny_bind ?_)
  refine wpAny_Name (wpAny_loadName_local rfl rfl hn2 hm2 ?_)
  refine wpAny_bind (wpAny_standAt (wpAny_pure ?_))
  refine wpAny_bind (wpAny_pure ?_)
  refine wpAny_bind (wpAny_holding (excFrom ht rfl rfl sub_te_be ?_))
  have h1' := kp _ _ h1
  have hne : x1 ≠ e2 := fun q => by subst q; rw [nw] at h1; cases h1
  show wpAny _ _ (holding _ (excFromValue (.ref x1) _) >>= _) _ _ _
  refine wpAny_bind (wpAny_holding (excFrom h1' hc1 hd1 sub_ae_be ?_))
  refine wpAny_bind (setField_obj ht (by show 3 < 6; decide) fun h3 s3 e3 => ?_)
  refine wpAny_bind (setField_obj e3 (by show 4 < 6; decide) fun h4 s4 e4 => ?_)
  refine wpAny_bind (isType_exc e4 rfl ?_)
  rw [if_neg (by simp)]
  unfold raisedInstance
  refine wpAny_bind (wpAny_bind (wpAny_typeOf (tyRef e4 rfl) ?_))
  refine wpAny_bind (wpAny_of_eq (a := .type "type") (by kernel_rfl) ?_)
  rw [if_pos (by decide)]
  refine wpAny_pure ?_
  unfold setFlight
  refine wpAny_bind ?_
  refine wpAny_bind (wpAny_field e4 rfl (x := .none) rfl ?_)
  rw [if_neg (by simp)]
  refine wpAny_pure ?_
  unfold raiseNew
  refine wpAny_bind (wpAny_handled ?_)
  rw [hA]
  have hbne : (Value.ref x1 != Value.ref e2) = true := by simpa using hne
  dsimp only
  rw [if_pos hbne]
  have h14 : h4.get? x1 = some o1 := (s4.2 _ hne).trans ((s3.2 _ hne).trans h1')
  refine wpAny_bind (wpAny_holding (wpAny_runValue (codeAny_builtin unchain_entry ?_)))
  unfold Builtin.«proto.unchain»
  refine wpAny_bind (wpAny_field h14 hd1 h12 ?_)
  rw [if_pos (by decide)]
  refine wpAny_pure ?_
  refine wpAny_bind (setField_obj (i := 2) (x := .ref x1) e4 (by show 2 < 6; decide) fun h5 s5 e5 => ?_)
  refine wpAny_throw ?_
  -- the heap without the exception
  have k5 : KeepS (· = e2) h2 h5 := ((KeepS.of_sameBut (X := (· = e2)) s3 rfl).trans (KeepS.of_sameBut (X := (· = e2)) s4 rfl)).trans (KeepS.of_sameBut (X := (· = e2)) s5 rfl)
  have hte : t ≠ e2 := fun q => by subst q; rw [ht] at htt; injection htt with q1; injection q1 with _ _ q2; cases q2
  have ht5 : h5.get? t = some { cls := .type "tuple", data := .seq [Value.str msg tm].toArray } := k5.get hte htt (fun _ _ q => by cases q)
  refine hq h5 e2 (h5.update e2 fun o => { o with data := .freed }) t ?_ nw ⟨?_, ?_, _, _, e5, rfl, rfl, rfl, .inl ⟨rfl, rfl⟩⟩ ?_ (kg.drop k5 fun b hb _ => hb ▸ nw) tk
  · exact (kg.drop k5 fun b hb _ => hb ▸ nw).drop (KeepS.of_sameBut (X := (· = e2)) (Heap.SameBut.update ..) rfl) fun b hb _ => hb ▸ nw
  · intro b o _ hb
    by_cases q : b = e2
    · subst q; rw [freed_none e5] at hb; cases hb
    · rw [Heap.get?_update_other _ _ (Ne.symm q)] at hb
      exact ⟨⟨o.slots, hb⟩, fun _ => hb⟩
  · exact freed_none e5
  · rw [Heap.get?_update_other _ _ (Ne.symm hte)]; exact ht5
end
end Mine
end
section
open PySem PySem.W PyProof.Rows PySem.Calls
set_option maxRecDepth 100000
namespace Mine
theorem sub_ae_ae : isSubtype (.type "AttributeError") (.type "AttributeError") = pure true := by rw [isSubtype_type]; kernel_rfl
theorem meta_ae : isSubtype (.type ((Manifest.find? "AttributeError").elim "type" fun x => x.metatype)) (.type "tuple") = pure false := by kernel_rfl
section
variable {w : World} {A : Around} {E : Value → Shared → Prop} {h : Heap} {g : Array GenState} {d : Drawn} {tk : Nat} {os : OsState} {mg mb : PySem.Str → Option Value} {f c : Addr} {pm : Value} {l : List Env} {M : Model} {e : Addr}
theorem Flt.store {h₀ h h' : Heap} {e L : Addr} {cls fl : Value} {a0 : Option Value × Option Value} {m : PySem.Str → Option Value} (X : Flt h₀ h e cls a0 fl) (hs : Heap.SameBut L h h') (hL0 : h₀.get? L = none) (hn : h.Ns L m) : Flt h₀ h' e cls a0 fl := by
  obtain ⟨k, n, o, vs, he, hc, hd, h0, hh⟩ := X
  obtain ⟨oL, es, ep, hoL, hdL, _⟩ := hn
  have ne : ∀ {b o vs}, h.get? b = some o → o.data = .fields vs → b ≠ L := fun hb hd q => by
    subst q; rw [hb] at hoL; cases hoL; rw [hd] at hdL; cases hdL
  refine ⟨k.drop (KeepS.of_sameBut (X := (· = L)) hs rfl) (fun b hb _ => hb ▸ hL0), n, o, vs, (hs.2 _ (ne he hd)).trans he, hc, hd, h0, ?_⟩
  rcases hh with hh | ⟨T, oT, ts, h1, hnT, hTe, hT, hdT, h3⟩
  · exact .inl hh
  · exact .inr ⟨T, oT, ts, h1, hnT, hTe, (hs.2 _ (ne hT hdT)).trans hT, hdT, h3⟩
theorem Frs.store {h h' : Heap} {L : Addr} {m : PySem.Str → Option Value} {env : Env} (F : Frs h (env :: l)) (hf : env.frame = some L) (hs : Heap.SameBut L h h') (hn : h'.Ns L m) : Frs h' (env :: l) := by
  intro e' he'
  obtain ⟨hk, L', o, es, n, hf', hl', ho, hd⟩ := F e' he'
  by_cases q : L' = L
  · subst q
    obtain ⟨o', es', ep', ho', hd', _⟩ := hn
    exact ⟨hk, L', o', es', ep', hf', hl', ho', hd'⟩
  · exact ⟨hk, L', o, es, n, hf', hl', (hs.2 _ q).trans ho, hd⟩
theorem Flt.grow {h₀ h h' : Heap} {e : Addr} {cls fl : Value} {a0 : Option Value × Option Value} (X : Flt h₀ h e cls a0 fl) (k' : Grow h h') : Flt h₀ h' e cls a0 fl := by
  obtain ⟨k, n, o, vs, he, hc, hd, h0, hh⟩ := X
  refine ⟨k.trans (.of_grow k'), n, o, vs, k' _ _ he, hc, hd, h0, ?_⟩
  rcases hh with hh | ⟨T, oT, ts, h1, hnT, hTe, hT, hdT, h3⟩
  · exact .inl hh
  · exact .inr ⟨T, oT, ts, h1, hnT, hTe, k' _ _ hT, hdT, h3⟩

theorem Flt.lower {h' h₀ h : Heap} {e : Addr} {cls fl : Value} {a0 : Option Value × Option Value} (k' : KeepS Nil h' h₀) (X : Flt h₀ h e cls a0 fl) : Flt h' h e cls a0 fl := by
  obtain ⟨k, n, o, vs, he, hc, hd, h0, hh⟩ := X
  refine ⟨k'.trans k, k'.none id n, o, vs, he, hc, hd, h0, ?_⟩
  rcases hh with hh | ⟨T, oT, ts, h1, hnT, hTe, hT, hdT, h3⟩
  · exact .inl hh
  · exact .inr ⟨T, oT, ts, h1, k'.none id hnT, hTe, hT, hdT, h3⟩
theorem cut_keep {hm : Heap} {L : Addr} : KeepS Nil (hm.update L fun o => { o with data := .freed }) hm := by
  intro b o _ hb
  by_cases q : b = L
  · subst q
    cases hz : hm.get? b with
    | none =>
      have : (hm.update b fun o => { o with data := .freed }).get? b = none := by
        cases hy : (hm.update b fun o => { o with data := .freed }).get? b with
        | none => rfl
        | some o2 =>
          exfalso
          have hs := Heap.lt_size hy
          rw [Heap.size_after_update] at hs
          unfold Heap.update Heap.get? at hy
          obtain ⟨objs, life⟩ := hm
          simp only [Array.getElem?_modify] at hy
          have h2 : b < objs.size := hs
          simp [h2] at hy
      rw [this] at hb; cases hb
    | some o2 => rw [freed_none hz] at hb; cases hb
  · rw [Heap.get?_update_other _ _ (Ne.symm q)] at hb
    exact ⟨⟨o.slots, hb⟩, fun _ => hb⟩
theorem flt_head {h₀ h : Heap} {e L : Addr} {cls : Value} {a0 : Option Value × Option Value} (X : Flt h₀ h e cls a0 (rawInt L)) : ∃ o vs T, h.get? e = some o ∧ o.data = .fields vs ∧ vs[1]? = some (.ref T) := by
  obtain ⟨k, n, o, vs, he, hc, hd, h0, hh⟩ := X
  rcases hh with ⟨_, q⟩ | ⟨T, oT, ts, h1, _⟩
  · cases q
  · exact ⟨o, vs, T, he, hd, h1⟩
theorem pass_on {h₀ : Heap} {L : Addr} {cls : Value} {a0 : Option Value × Option Value} {what : String} {env : Env} {α : Type} {Q : α → Shared → Prop} (X : Flt h₀ h e cls a0 (rawInt L)) (F : Frs h l) (hf : env.frame = some L)
    (hq : ∀ h', Flt h₀ h' e cls a0 (rawInt L) → Frs h' l → E (.ref e) ⟨h', g, d, tk, os⟩) : wpAny M A (PySem.passOn what (.ref e) env : Sem α) Q E ⟨h, g, d, tk, os⟩ := by
  obtain ⟨o, vs, T, he, hd, h1⟩ := flt_head X
  unfold PySem.passOn
  refine wpAny_bind (wpAny_field he hd h1 ?_)
  rw [if_neg (by simp)]
  rw [hf]
  exact wpAny_bind (set_flight (fr := some L) X F fun h' X' F' => wpAny_throw (hq h' X' F'))
theorem noted_exc {h₀ : Heap} {L : Addr} {cls : Value} {a0 : Option Value × Option Value} {env : Env} (X : Flt h₀ h e cls a0 (rawInt L)) (hf : env.frame = some L) (hq : E (.ref e) ⟨h, g, d, tk, os⟩) : notedBy M A env E (.ref e) ⟨h, g, d, tk, os⟩ := by
  unfold notedBy
  first
    | exact note_again hf X hq
    | exact wpAny_bind (note_again hf X (wpAny_theTreesLotGoes hq))
theorem cameBack_exc {h₀ : Heap} {L : Addr} {cls : Value} {a0 : Option Value × Option Value} {env : Env} (X : Flt h₀ h e cls a0 (rawInt L)) (F : Frs h l) (hf : env.frame = some L)
    (hq : ∀ h', Flt h₀ h' e cls a0 (rawInt L) → Frs h' l → E (.ref e) ⟨h', g, d, tk, os⟩) : cameBackBy M A env E (.ref e) ⟨h, g, d, tk, os⟩ := by
  obtain ⟨o, vs, T, he, hd, h1⟩ := flt_head X
  unfold cameBackBy
  refine wpAny_bind (wpAny_field he hd h1 ?_)
  rw [if_neg (by simp), hf]
  exact set_flight (fr := some L) X F fun h' X' F' => hq h' X' F'
theorem dec_raise {v : Value} {x : Thing} {Q : Value → Shared → Prop} (N : Names mg mb) (hroom : A.depth + 2 < recursionLimit) (hA : A.handled = none) (hfr : A.frames = some l) (F : Frs h l) (hg : A.guards = some []) (hu : A.units + 50 < cLine)
    (B : Base mg mb h) (hsz : nB ≤ h.objs.size) (hf : h.get? f = some (decObj c pm)) (hcd : h.CodeRec (.ref c) decQ) (hv : Is h v x) (hb : x.isB = false) (ho : x.ok)
    (hq : ∀ h' e tk', Raised h h' e (dueOf x) → Frs h' l → E (.ref e) ⟨h', g, d, tk', os⟩) :
    wpAny (model P w) A (call (.ref f) [v]) Q E ⟨h, g, d, tk, os⟩ := by
  refine dec_enter (by omega) B hf hcd fun h₀ hn hk => ?_
  have hLn : h.get? h.objs.size = none := Heap.get?_none_of_le (Nat.le_refl _)
  generalize hL : h.objs.size = L at *
  have kG : KeepS Nil h h₀ := .of_grow hk
  have F1 : Frs h₀ (decEnv L f c pm :: l) := Frs.cons (by show ScopeKind.function ≠ .module; simp) rfl hsz hn (F.keep kG fun _ _ _ _ => id)
  have hv0 : Is h₀ v x := hv.keep kG fun _ _ => id
  have hfr1 : (A.deeper (decEnv L f c pm)).frames = some (decEnv L f c pm :: l) := Around.frames_deeper hfr
  generalize hA1 : A.deeper (decEnv L f c pm) = A1 at *
  have hA1h : A1.handled = none := by subst hA1; exact hA
  have hA1g : A1.guards = some [] := by subst hA1; exact hg
  have hA1u : A1.units + 30 < cLine := by subst hA1; show A.units + 3 + 30 < cLine; omega
  refine wpAny_execs_cons (wpAny_Try_except (wpAny_execs_cons (wpAny_Return_some ?_)))
  -- the call that misses
  rw [arm_eval_Call]
  refine wpAny_bind (?_ : wpAny _ _ (eval _ _) _ _ _)
  refine wpAny_Name (wpAny_loadName_local rfl rfl hn rfl ?_)
  refine wpAny_bind (wpAny_standAt ?_)
  unfold methodCall
  refine wpAny_bind (wpAny_holding ?_)
  show wpAny _ _ (getMethod v sDec _) _ _ _
  refine method_miss hv0 hb hA1h fun h1 tk1 x1 nx => ?_
  obtain ⟨a1, X1⟩ := flt_of (KeepS.refl Nil h₀) nx
  have F2 := F1.keep (KeepS.of_grow nx.keeps) fun _ _ _ _ => id
  refine note_exc hfr1 F2 rfl X1 fun h2 X2 F3 => ?_
  refine set_flight_none X2 F3 fun h3 X3 F4 => ?_
  refine wpAny_handleBy_builtin_as (X := "AttributeError") (T := "AttributeError") (b := true) sub_ae_be meta_ae sub_ae_ae ?_
  refine name_bui N (X3.keep.base id id id (kG.base id id id B)) rfl rfl rfl (by rfl) (N.no _ (by decide)) (by decide) boot_AttributeError (by decide) ?_
  refine ⟨rfl, ?_, ?_⟩
  · obtain ⟨_, _, o, vs, he, hc, _⟩ := X3; exact tyRef he hc
  rw [if_pos rfl]
  refine set_flight_none X3 F4 fun h4 X4 F5 => ?_
  have hn4 := X4.keep.ns id hn
  have Y4 : Flt h h4 x1 _ _ _ := X4.lower kG
  refine wpAny_storeName_local (by rfl) hn4 (fun h5 hn5 hs5 => ?_) (by rfl)
  have Y5 := Y4.store hs5 hLn hn4
  have F6 := F5.store rfl hs5 hn5
  have B5 := Y5.keep.base id id id B
  have hv5 : Is h5 v x := hv.keep Y5.keep fun _ _ => id
  generalize hA2 : A1.mark (some (.ref x1)) = A2
  have hA2h : A2.handled = some (.ref x1) := by subst hA2; rfl
  have hA2f : A2.frames = some (decEnv L f c pm :: l) := by subst hA2; exact hfr1
  have hA2g : A2.guards = some [] := by subst hA2; exact hA1g
  have hA2u : A2.units + 30 < cLine := by subst hA2; exact hA1u
  -- msg = f".."
  refine wpAny_execs_cons (wpAny_Assign_Name ?_)
  refine dec_msg N B5 hA2g hA2u hn5 rfl hv5 hb ho fun h6 u6 tk6 k6 => ?_
  have Y6 := Y5.grow k6
  have F7 := F6.keep (KeepS.of_grow k6) fun _ _ _ _ => id
  have hn6 := hn5.keeps k6
  refine wpAny_storeName_local (by rfl) hn6 (fun h7 hn7 hs7 => ?_) (by rfl)
  have Y7 := Y6.store hs7 hLn hn6
  have F8 := F7.store rfl hs7 hn7
  -- raise TypeError(msg) from err
  have Y7' := Y7
  obtain ⟨k7, n7, o1, vs1, he1, hc1, hd1, h01, _⟩ := Y7'
  have h12 : vs1[2]? = some .none := (Prod.mk.inj h01).2
  refine wpAny_execs_cons ?_
  refine raise_from N (k7.base id id id B) hn7 rfl rfl hA2h he1 hc1 hd1 h12 fun h8 e2 hm t km n8 X8 htm k8 tk8 => ?_
  have F9 := F8.keep k8 fun _ _ _ _ => id
  refine note_exc hA2f F9 rfl X8 fun h9 X9 F10 => ?_
  have hnm := km.ns id hn7
  have hn9 := X9.keep.ns id hnm
  refine wpAny_nameGoes (by rfl) hn9 (by rfl) fun h10 m10 hn10 hs10 => ?_
  have hmL : ∃ o, hm.get? L = some o := let ⟨o, _, _, ho, _⟩ := hnm; ⟨o, ho⟩
  obtain ⟨oL, hoL⟩ := hmL
  have htL : t ≠ L := fun q => by
    subst q
    obtain ⟨o, es, ep, ho, hd, _⟩ := hnm
    have ho' : hm.get? t = some o := ho
    rw [htm] at ho'; cases ho'; cases hd
  have X9' := X9.lower (cut_keep (L := L))
  have X10 := X9'.store hs10 (freed_none hoL) hn9
  have F11 := F10.store rfl hs10 hn10
  refine pass_on X10 F11 rfl fun h11 X11 F12 => ?_
  refine noted_exc X11 rfl ?_
  refine cameBack_exc X11 F12 rfl fun h12 X12 F13 => ?_
  refine leave_again F13 rfl X12 fun h13 X13 F14 => ?_
  refine hq h13 e2 _ ⟨_, t, u6, _, ?_, ?_, X13, ?_⟩ (fun e' he' => F14 e' (List.mem_cons_of_mem _ he'))
  · exact (k7.trans km).drop (KeepS.of_sameBut (X := (· = L)) (Heap.SameBut.update ..) rfl) fun b hb _ => hb ▸ hLn
  · exact k7.none id n8
  · rw [Heap.get?_update_other _ _ (Ne.symm htL)]; exact htm
end
end Mine
end
section
open PySem PySem.W PyProof.Rows PySem.Calls
set_option maxRecDepth 100000
namespace Mine
abbrev lstO (acc : Array Value) (c : Nat) : Obj := { cls := .type "list", dict := none, data := .seq acc c, slots := #[] }
theorem map_iter : Slot "map" "__iter__" "map.__iter__" :=
  .of (owner := "map") (n := "__iter__") (by rw [typeLookup_type, builtinLookup_eq_fast]; kernel_rfl) (by decide +kernel) (by decide +kernel) (by decide +kernel)
    (by first | exact .inl (by decide +kernel) | exact .inr (by decide +kernel)) (by rw [isSubtype_type]; kernel_rfl)
theorem map_next : Slot "map" "__next__" "map.__next__" :=
  .of (owner := "map") (n := "__next__") (by rw [typeLookup_type, builtinLookup_eq_fast]; kernel_rfl) (by decide +kernel) (by decide +kernel) (by decide +kernel)
    (by first | exact .inl (by decide +kernel) | exact .inr (by decide +kernel)) (by rw [isSubtype_type]; kernel_rfl)
theorem map_entry_next : entryFor table "map.__next__" = some Builtin.«map.__next__» := entryFor_of_fast (by kernel_rfl)
theorem map_entry_iter : entryFor table "map.__iter__" = some Builtin.«dict_keyiterator.__iter__» :=
  entryFor_alias (id' := "dict_keyiterator.__iter__") (by kernel_rfl) rfl (by decide +kernel) (by kernel_rfl)
theorem map_args_iter (a : Value) : argsOk "map.__iter__" ⟨[a], []⟩ := by unfold argsOk; kernel_rfl
theorem map_args_next (a : Value) : argsOk "map.__next__" ⟨[a], []⟩ := by unfold argsOk; kernel_rfl
theorem map_no_len : typeLookup (.type "map") "__len__" = pure none := by rw [typeLookup_type, builtinLookup_eq_fast]; kernel_rfl
theorem map_no_hint : typeLookup (.type "map") "__length_hint__" = pure none := by rw [typeLookup_type, builtinLookup_eq_fast]; kernel_rfl
section
variable {w : World} {A : Around} {E : Value → Shared → Prop} {h : Heap} {g : Array GenState} {d : Drawn} {tk : Nat} {os : OsState} {s : Shared} {I S : Addr} {R : Result → Shared → Prop}
/-- the loop of list(it): J goes down at each item -/
theorem ext_loop {res : Value} (J : Nat → Array Value → Shared → Prop)
    (turn : ∀ n acc s c, J n acc s → s.heap.get? S = some (lstO acc c) → wpAny (model P w) A.in1 (pyNext (.ref I)) (fun r s' => (∃ c', s'.heap.get? S = some (lstO acc c')) ∧
      match r with
      | none => R (.ok (.ret res)) s'
      | some x => acc.size < 5000 ∧ ∀ h', Heap.SameBut S s'.heap h' → (∃ c'', h'.get? S = some (lstO (acc.push x) c'')) → ∃ m, m < n ∧ J m (acc.push x) { s' with heap := h' }) (fun e s' => R (.error e) s') s) :
    ∀ n acc s c, J n acc s → s.heap.get? S = some (lstO acc c) → codeAny (model P w) A (.builtin "list.extend.loop" ⟨[.ref S, .ref I, res], []⟩) R s := by
  intro n
  induction n using Nat.strongRecOn with
  | ind n ih =>
    intro acc s c hJ hS
    refine codeAny_builtin F.entry_extend_loop ?_
    rw [Around.under_plainId F.plain_extend_loop _]
    show wpAny _ A.in1 (pyNext (.ref I) >>= _) _ _ s
    refine wpAny_bind (wpAny_mono (turn n acc s c hJ hS) (fun r s' hr => ?_) fun _ _ x => x)
    obtain ⟨⟨c', hS'⟩, hr⟩ := hr
    cases r with
    | none => exact wpAny_pure hr
    | some v =>
      obtain ⟨hz, hr⟩ := hr
      show wpAny _ A.in1 (updateSeq S (·.push v) >>= _) _ _ _
      refine wpAny_bind (wpAny_updateSeq hS' rfl ?_ ?_ ?_)
      · have hS2 := Heap.get?_update_self (Obj.mapSeq (·.push v)) hS' rfl
        obtain ⟨m, hm, hJ'⟩ := hr (s'.heap.update S (Obj.mapSeq (·.push v))) (Heap.SameBut.update ..) ⟨_, hS2⟩
        exact wpAny_pure ⟨plainId_quiet F.plain_extend_loop _, ih m hm (acc.push v) _ _ hJ' hS2⟩
      · rw [sizeLine_eq]; omega
      · show (acc.push v).size ≤ _; rw [sizeLine_eq, Array.size_push]; omega
theorem map_pyIter {oI : Obj} {Q : Value → Shared → Prop} (hI : s.heap.get? I = some oI) (hc : oI.cls = .type "map") (hq : Q (.ref I) s) : wpAny (model P w) A (pyIter (.ref I)) Q E s := by
  refine wpAny_pyIter_slot (tyRef hI hc) map_iter (wpAny_call_entry map_iter (tyRef hI hc) map_entry_iter ?_ (map_args_iter _))
  show wpAny _ _ (pure (Fin.done (.ret (.ref I)))) _ _ _
  exact wpAny_pure ⟨_, rfl, "map", _, tyRef hI hc, map_next.lookup, hq⟩
/-- list(it) for a map or a generator -/
theorem list_call {T : String} {oI : Obj} {Q : Value → Shared → Prop} (hI : h.get? I = some oI) (hc : oI.cls = .type T)
    (hT : (Value.type T == Value.type "list") = false ∧ (Value.type T == Value.type "tuple") = false ∧ typeLookup (.type T) "__len__" = pure none ∧ typeLookup (.type T) "__length_hint__" = pure none)
    (hiter : ∀ (A : Around) (s : Shared) (Q : Value → Shared → Prop) (E : Value → Shared → Prop), s.heap.get? I = some oI → Q (.ref I) s → wpAny (model P w) A (pyIter (.ref I)) Q E s)
    (loop : ∀ h1 c, Heap.SameBut h.objs.size (h.push (lstO #[] 0)) h1 → h1.get? h.objs.size = some (lstO #[] c) →
      codeAny (model P w) A.in1 (.builtin "list.extend.loop" ⟨[.ref h.objs.size, .ref I, .none], []⟩) (fun r s' => match r with | .ok f => f = .ret .none ∧ Q (.ref h.objs.size) s' | .error e => E e s') ⟨h1, g, d, tk, os⟩) :
    wpAny (model P w) A (call (.type "list") [.ref I]) Q E ⟨h, g, d, tk, os⟩ := by
  have hSI : h.objs.size ≠ I := Nat.ne_of_gt (Heap.lt_size hI)
  refine callType_codes (Q₁ := fun obj s₁ => obj = .ref h.objs.size ∧ s₁ = ⟨h.push (lstO #[] 0), g, d, tk, os⟩) F.called_list (F.typeCall_list_1 _) F.entry_list_init (code_list_new _ ⟨rfl, rfl⟩) ?_
  rintro obj s₁ ⟨rfl, rfl⟩
  have hS : (h.push (lstO #[] 0)).get? h.objs.size = some (lstO #[] 0) := Heap.get?_push_size _ rfl
  refine ⟨tyRef hS rfl, F.args_list_init_2 _ _, ?_⟩
  show wpAny _ _ (do let old ← Builtin.List.listItems (.ref h.objs.size); Builtin.List.listUpdate (.ref h.objs.size) (fun _ => #[]); letGo old.toList.reverse; Builtin.List.listExtendWith (.ref h.objs.size) (.ref I) .none) _ _ _
  refine wpAny_bind ?_
  unfold Builtin.List.listItems
  refine wpAny_bind (wpAny_seqItems hS rfl (wpAny_pure ?_))
  show wpAny _ _ (updateSeq h.objs.size (fun _ => #[]) >>= _) _ _ _
  refine wpAny_bind (wpAny_updateSeq hS rfl ?_)
  have hS₂ := Heap.get?_update_self (Obj.mapSeq (fun _ => (#[] : Array Value))) hS rfl
  have sb := Heap.SameBut.update (h.push (lstO #[] 0)) h.objs.size (Obj.mapSeq (fun _ => (#[] : Array Value)))
  refine wpAny_bind (wpAny_letGo ?_)
  unfold Builtin.List.listExtendWith
  have hI2 : ((h.push (lstO #[] 0)).update h.objs.size (Obj.mapSeq (fun _ => (#[] : Array Value)))).get? I = some oI := (sb.2 _ (Ne.symm hSI)).trans (Heap.get?_push_of_some _ hI)
  refine wpAny_bind (wpAny_typeOf (tyRef hI2 hc) ?_)
  have h1 : Builtin.List.listSameRef (.ref h.objs.size) (.ref I) = false := by simp [Builtin.List.listSameRef, hSI]
  simp only [h1, hT.1, hT.2.1, Bool.or_false, Bool.false_eq_true, if_false]
  refine wpAny_bind (hiter _ _ _ _ hI2 ?_)
  refine wpAny_bind (wpAny_holding ?_)
  unfold Builtin.List.listLengthHint
  refine wpAny_bind (wpAny_specialOf (tyRef hI2 hc) hT.2.2.1 ?_)
  show wpAny _ _ (specialOf (Value.ref I) (PySem.Str.ofString "__length_hint__") >>= _) _ _ _
  refine wpAny_bind (wpAny_specialOf (tyRef hI2 hc) hT.2.2.2 ?_)
  refine wpAny_pure ?_
  rw [if_pos (by rfl)]
  refine wpAny_bind (wpAny_rule ?_)
  refine wpAny_bind ?_
  show wpAny _ _ (updateSeq h.objs.size (·.push .none) >>= fun _ => updateSeq h.objs.size (·.pop)) _ _ _
  refine wpAny_bind (wpAny_updateSeq hS₂ rfl ?_)
  have hS₃ := Heap.get?_update_self (Obj.mapSeq (·.push Value.none)) hS₂ rfl
  refine wpAny_updateSeq (hz := by seq_fits) hS₃ rfl ?_
  have hS₄ := Heap.get?_update_self (Obj.mapSeq (·.pop)) hS₃ rfl
  have sb4 := (sb.trans (Heap.SameBut.update _ h.objs.size (Obj.mapSeq (·.push Value.none)))).trans (Heap.SameBut.update _ h.objs.size (Obj.mapSeq (·.pop)))
  refine wpAny_pure ⟨plainId_quiet F.plain_extend_loop _, codeAny_mono (loop _ _ sb4 hS₄) fun r s' hr => ?_⟩
  cases r with
  | error e => exact hr
  | ok f => obtain ⟨rfl, hq⟩ := hr; exact ⟨rfl, hq⟩
end
end Mine
end
section
open PySem PySem.W PyProof.Rows PySem.Calls
set_option maxRecDepth 100000
namespace Mine
/-- an iterator over a list, or one that has come to its end -/
structure Well (h : Heap) (W l : Addr) (items : Array Value) (i : Nat) : Prop where
  lst : h.IsList l items
  it : ∃ o, h.get? W = some o ∧ o.cls = .type "list_iterator" ∧ (o.data = .fields #[.ref l, .int i 0] ∨ (o.data = .fields #[.none, .int i 0] ∧ items.size ≤ i))
theorem IsList.keepS {X : Addr → Prop} {h h' : Heap} {l : Addr} {items : Array Value} (hl : h.IsList l items) (k : KeepS X h h') (hx : ¬ X l) : h'.IsList l items := by
  obtain ⟨o, ho, hc, n, hd⟩ := hl
  exact ⟨o, k.get hx ho (fun es m q => by rw [hd] at q; cases q), hc, n, hd⟩
theorem Well.keep {X : Addr → Prop} {h h' : Heap} {W l : Addr} {items : Array Value} {i : Nat} (w : Well h W l items i) (k : KeepS X h h') (hW : ¬ X W) (hl : ¬ X l) : Well h' W l items i := by
  obtain ⟨l1, o, ho, hc, hd⟩ := w
  refine ⟨IsList.keepS l1 k hl, o, k.get hW ho (fun es m q => ?_), hc, hd⟩
  rcases hd with hd | ⟨hd, _⟩ <;> rw [hd] at q <;> cases q
theorem Well.ne {h : Heap} {W l : Addr} {items : Array Value} {i : Nat} (w : Well h W l items i) : l ≠ W := by
  obtain ⟨⟨ol, hol, _, n, hdl⟩, o, ho, hc, hd⟩ := w
  intro q; subst q
  rw [hol] at ho; cases ho
  rcases hd with hd | ⟨hd, _⟩ <;> rw [hd] at hdl <;> cases hdl
section
variable {w : World} {A : Around} {E : Value → Shared → Prop} {h : Heap} {g : Array GenState} {d : Drawn} {tk : Nat} {os : OsState} {W l : Addr} {items : Array Value} {i : Nat}
theorem Well.type (ww : Well h W l items i) : Shared.TypeIs ⟨h, g, d, tk, os⟩ (.ref W) "list_iterator" := by
  obtain ⟨_, o, ho, hc, _⟩ := ww; exact ⟨o, ho, hc⟩
theorem well_item {x : Value} {Q : Value → Shared → Prop} (ww : Well h W l items i) (hx : items[i]? = some x)
    (hq : ∀ h', Well h' W l items (i + 1) → Heap.SameBut W h h' → Q x ⟨h', g, d, tk, os⟩) : wpAny (model P w) A (call (.builtin "list_iterator.__next__") [.ref W]) Q E ⟨h, g, d, tk, os⟩ := by
  have hne := ww.ne
  have hw := ww
  obtain ⟨hl, o, ho, hc, hd⟩ := ww
  have hi : i < items.size := by
    rcases Nat.lt_or_ge i items.size with q | q
    · exact q
    · rw [Array.getElem?_eq_none q] at hx; cases hx
  have hd : o.data = .fields #[.ref l, .int i 0] := by
    rcases hd with hd | ⟨_, q⟩
    · exact hd
    · omega
  refine wpAny_call_entry slot_listiter_next hw.type entry_listiter_next ?_ (args_listiter_next _)
  obtain ⟨ol, hol, hcl, nl, hdl⟩ := id hl
  show wpAny _ _ (field (.ref W) 0 >>= _) _ _ _
  refine wpAny_bind (wpAny_field ho hd (x := .ref l) rfl ?_)
  show wpAny _ _ (if (Value.ref l == Value.none) = true then _ else _) _ _ _
  rw [if_neg (show ¬ ((Value.ref l == Value.none) = true) from Bool.false_ne_true)]
  show wpAny _ _ (field (.ref W) 1 >>= _) _ _ _
  refine wpAny_bind (wpAny_field ho hd (x := .int i 0) rfl ?_)
  show wpAny _ _ (seqItems? (.ref l) >>= _) _ _ _
  refine wpAny_bind (wpAny_seqItems hol hdl ?_)
  simp only [Int.toNat_natCast, hx]
  have sb := Heap.SameBut.update h W (Obj.mapFields (·.setIfInBounds 1 (rawInt ((i : Int) + 1))))
  refine wpAny_bind (wpAny_setField ho hd (by simp) (wpAny_pure ⟨x, rfl, hq _ ⟨IsList.keepS hl (KeepS.of_sameBut (X := (· = W)) sb rfl) hne, ?_⟩ sb⟩))
  exact ⟨_, Heap.get?_update_self _ ho (Obj.isFreed_of_fields (Obj.data_mapFields hd _)), (Obj.cls_mapFields ..).trans hc, .inl (by rw [Obj.data_mapFields hd]; simp [rawInt])⟩
theorem stop_iter {α : Type} {M : Model} {Q : α → Shared → Prop} (hh : A.handled = none) (hq : ∀ h' e, Grow h h' → (∃ o, h'.get? e = some o ∧ o.cls = .type "StopIteration") → E (.ref e) ⟨h', g, d, tk, os⟩) :
    wpAny M A ((newExc (.type "StopIteration") [] >>= fun x => raiseNew x : Sem α)) Q E ⟨h, g, d, tk, os⟩ := by
  refine wpAny_bind ?_
  simp only [newExc, newTuple]
  refine wpAny_bind (wpAny_newObj_type ?_ (by size_fits))
  refine wpAny_bind (m := firstArgMember _ _) (wpAny_of_eq (a := Value.none) (by first | rfl | (simp only [firstArgMember]; rfl)) ?_)
  refine wpAny_newObj_type ?_ (by size_fits)
  simp only [raiseNew]
  refine wpAny_bind (wpAny_handled ?_)
  rw [hh]
  refine wpAny_throw ?_
  exact hq _ _ ((Grow.push _ _).trans (Grow.push _ _)) ⟨_, Heap.get?_push_size _ rfl, rfl⟩
theorem well_end {Q : Value → Shared → Prop} (hh : A.handled = none) (ww : Well h W l items i) (hx : items[i]? = none)
    (hq : ∀ h' e, Well h' W l items i → Heap.ExtBut W h h' → (∃ o, h'.get? e = some o ∧ o.cls = .type "StopIteration") → E (.ref e) ⟨h', g, d, tk, os⟩) :
    wpAny (model P w) A (call (.builtin "list_iterator.__next__") [.ref W]) Q E ⟨h, g, d, tk, os⟩ := by
  have hne := ww.ne
  have hw := ww
  obtain ⟨hl, o, ho, hc, hd⟩ := ww
  have hi : items.size ≤ i := by
    rcases Nat.lt_or_ge i items.size with q | q
    · rw [Array.getElem?_eq_getElem q] at hx; cases hx
    · exact q
  refine wpAny_call_entry slot_listiter_next hw.type entry_listiter_next ?_ (args_listiter_next _)
  obtain ⟨ol, hol, hcl, nl, hdl⟩ := id hl
  show wpAny _ _ (field (.ref W) 0 >>= _) _ _ _
  rcases hd with hd | ⟨hd, _⟩
  · refine wpAny_bind (wpAny_field ho hd (x := .ref l) rfl ?_)
    show wpAny _ _ (if (Value.ref l == Value.none) = true then _ else _) _ _ _
    rw [if_neg (show ¬ ((Value.ref l == Value.none) = true) from Bool.false_ne_true)]
    show wpAny _ _ (field (.ref W) 1 >>= _) _ _ _
    refine wpAny_bind (wpAny_field ho hd (x := .int i 0) rfl ?_)
    show wpAny _ _ (seqItems? (.ref l) >>= _) _ _ _
    refine wpAny_bind (wpAny_seqItems hol hdl ?_)
    simp only [Int.toNat_natCast, hx]
    have sb := Heap.SameBut.update h W (Obj.mapFields (·.setIfInBounds 0 Value.none))
    refine wpAny_bind (wpAny_rule (wpAny_bind (wpAny_setField ho hd (by simp) ?_)))
    refine stop_iter hh fun h' e k' he => ?_
    refine hq h' e ⟨IsList.keepS (IsList.keepS hl (KeepS.of_sameBut (X := (· = W)) sb rfl) hne) (KeepS.of_grow (X := Nil) k') id, ?_⟩ (fun b o' hb e' => k' b o' ((sb.2 b hb).trans e')) he
    exact ⟨_, k' _ _ (Heap.get?_update_self _ ho (Obj.isFreed_of_fields (Obj.data_mapFields hd _))), (Obj.cls_mapFields ..).trans hc, .inr ⟨by rw [Obj.data_mapFields hd]; simp, hi⟩⟩
  · refine wpAny_bind (wpAny_field ho hd (x := .none) rfl ?_)
    rw [if_pos (by decide)]
    refine wpAny_bind (wpAny_rule (wpAny_bind ?_))
    refine stop_iter hh fun h' e k' he => ?_
    exact hq h' e (hw.keep (KeepS.of_grow (X := Nil) k') id id) (fun b o' _ e' => k' b o' e') he
end
end Mine
end
section
open PySem PySem.W PyProof.Rows PySem.Calls
set_option maxRecDepth 100000
namespace Mine
section
variable {w : World} {A : Around} {E : Value → Shared → Prop} {h : Heap} {g : Array GenState} {d : Drawn} {tk : Nat} {os : OsState} {W l Mp tup f : Addr} {items : Array Value} {i : Nat}
abbrev mapO (tup f : Addr) : Obj := { cls := .type "map", data := .fields #[.ref tup, .ref f] }
abbrev tupO (vs : Array Value) : Obj := { cls := .type "tuple", data := .seq vs }
theorem map_tree {Q : Value → Shared → Prop} (hm : h.get? Mp = some (mapO tup f)) (ht : h.get? tup = some (tupO #[.ref W]))
    (hq : wpAny (model P w) A.in1 (callSpecial? (.ref W) "__next__") (fun r s' => ∃ x, r = some x ∧ (∃ o, s'.heap.get? Mp = some o ∧ o.data = .fields #[.ref tup, .ref f]) ∧
      wpAny (model P w) A.in1 (call (.ref f) [x]) Q E s') E ⟨h, g, d, tk, os⟩) :
    wpAny (model P w) A (call (.builtin "map.__next__") [.ref Mp]) Q E ⟨h, g, d, tk, os⟩ := by
  refine wpAny_call_entry map_next (tyRef hm rfl) map_entry_next ?_ (map_args_next _)
  unfold Builtin.«map.__next__»
  refine wpAny_bind (wpAny_of_eq (a := (.ref Mp, [])) (by first | rfl | kernel_rfl) ?_)
  refine wpAny_bind (wpAny_field hm rfl (x := .ref tup) rfl ?_)
  refine wpAny_bind (wpAny_seqItems ht rfl ?_)
  dsimp only
  refine wpAny_bind ?_
  rw [← Array.forIn_toList]
  show wpAny _ _ (forIn [Value.ref W] #[] _) _ _ _
  rw [List.forIn_cons]
  refine wpAny_bind (wpAny_bind (wpAny_holding ?_))
  unfold Builtin.SmallTypes.nextOf
  refine wpAny_bind (wpAny_mono hq (fun r s' hr => ?_) fun _ _ e => e)
  obtain ⟨x, rfl, ⟨o, ho, hd⟩, hr⟩ := hr
  refine wpAny_pure (wpAny_pure ?_)
  dsimp only
  rw [List.forIn_nil]
  refine wpAny_pure ?_
  refine wpAny_bind (wpAny_field ho hd (x := .ref f) rfl ?_)
  refine wpAny_bind (wpAny_holding (wpAny_mono hr (fun v s'' hv => ?_) fun _ _ e => e))
  refine wpAny_bind (wpAny_letGo (wpAny_pure ⟨_, rfl, hv⟩))

def RaisedX (X : Addr → Prop) (h₀ h : Heap) (e : Addr) (msg : PySem.Str) : Prop :=
  ∃ hm t tn c2, KeepS X h₀ hm ∧ h₀.get? e = none ∧ Flt hm h e (.type "TypeError") (some (.ref t), c2) .none ∧ hm.get? t = some { cls := .type "tuple", data := .seq #[.str msg tn] }
theorem RaisedX.of {X : Addr → Prop} {h h1 h' : Heap} {e : Addr} {msg : PySem.Str} (k : KeepS X h h1) (he : ¬ X e) (r : Raised h1 h' e msg) : RaisedX X h h' e msg := by
  obtain ⟨hm, t, tn, c2, k1, n, F, ht⟩ := r
  exact ⟨hm, t, tn, c2, k.trans (k1.mono fun _ q => q.elim), k.none he n, F, ht⟩
theorem RaisedX.pre {X : Addr → Prop} {h h1 h' : Heap} {e : Addr} {msg : PySem.Str} (k : KeepS X h h1) (he : ¬ X e) (r : RaisedX X h1 h' e msg) : RaisedX X h h' e msg := by
  obtain ⟨hm, t, tn, c2, k1, n, F, ht⟩ := r
  exact ⟨hm, t, tn, c2, k.trans k1, k.none he n, F, ht⟩
theorem RaisedX.keep {X : Addr → Prop} {h h' : Heap} {e : Addr} {msg : PySem.Str} (r : RaisedX X h h' e msg) : KeepS X h h' := by
  obtain ⟨hm, t, tn, c2, k1, n, F, ht⟩ := r
  exact k1.trans (F.keep.mono fun _ q => q.elim)

theorem Is.keepF {h h' : Heap} {v : Value} {x : Thing} {W : Addr} {o : Obj} {vs : Array Value} (hv : Is h v x) (k : KeepS (· = W) h h') (hW : h.get? W = some o) (hd : o.data = .fields vs) : Is h' v x := by
  refine hv.keep k fun a ha q => ?_
  subst ha
  have q : a = W := q
  subst q
  cases x <;> first | exact hv.elim | (obtain ⟨t, n, e⟩ := hv; rw [e] at hW; cases hW; cases hd)

/-- next(map(decode, it)) -/
theorem map_bytes {c : Addr} {pm : Value} {mg mb : PySem.Str → Option Value} {b : Array UInt8} {tb : Tok} {Q : Option Value → Shared → Prop} (hroom : A.depth < recursionLimit) (B : Base mg mb h) (hf : h.get? f = some (decObj c pm)) (hcd : h.CodeRec (.ref c) decQ)
    (hm : h.get? Mp = some (mapO tup f)) (ht : h.get? tup = some (tupO #[.ref W])) (ww : Well h W l items i) (hx : items[i]? = some (.bytes b tb)) (hb : b.size ≤ 1000) (h41 : nB ≤ W)
    (hq : ∀ h' t' tk', Well h' W l items (i + 1) → KeepS (· = W) h h' → Q (some (.str (decTxt b) t')) ⟨h', g, d, tk', os⟩) :
    wpAny (model P w) A (pyNext (.ref Mp)) Q E ⟨h, g, d, tk, os⟩ := by
  obtain ⟨oW, hoW, hcW, hdW⟩ := ww.it
  have hne : ∀ {a : Addr} {o : Obj}, h.get? a = some o → o.cls ≠ .type "list_iterator" → a ≠ W := fun ha hc q => by subst q; rw [ha] at hoW; cases hoW; exact hc hcW
  unfold pyNext
  refine wpAny_bind (wpAny_attempt (wpAny_callSpecial?_slot (name := PySem.Str.ofString "__next__") (tyRef hm rfl) map_next (map_tree hm ht ?_)))
  refine wpAny_callSpecial?_slot (name := PySem.Str.ofString "__next__") ww.type slot_listiter_next (well_item ww hx fun h1 w1 s1 => ?_)
  have k1 : KeepS (· = W) h h1 := KeepS.of_sameBut s1 rfl
  refine ⟨_, rfl, ⟨_, k1.get (hne hm (by simp)) hm (fun _ _ q => by cases q), rfl⟩, ?_⟩
  have n0 : ¬ (0 : Addr) = W := fun q => by rw [← q] at h41; exact absurd h41 (by decide)
  have n2 : ¬ (2 : Addr) = W := fun q => by rw [← q] at h41; exact absurd h41 (by decide)
  have n3 : ¬ (3 : Addr) = W := fun q => by rw [← q] at h41; exact absurd h41 (by decide)
  have hf1 : h1.get? f = some (decObj c pm) := k1.get (hne hf (by simp [decObj])) hf (fun _ _ q => by cases q)
  have hcd1 : h1.CodeRec (.ref c) decQ := by
    obtain ⟨c', o, vs, t, e, ho, hd, hv⟩ := hcd
    refine ⟨c', o, vs, t, e, k1.get (fun q => ?_) ho (fun _ _ q => by rw [hd] at q; cases q), hd, hv⟩
    have q : c' = W := q
    subst q
    rw [ho] at hoW; cases hoW
    rcases hdW with hdW | ⟨hdW, _⟩ <;> rw [hd] at hdW <;> cases hdW <;> simp at hv
  refine dec_bytes hroom (k1.base n0 n2 n3 B) hf1 hcd1 hb fun h2 t2 tk2 k2 => ?_
  refine wpAny_pure (hq h2 t2 tk2 (w1.keep (KeepS.of_grow (X := Nil) k2) id id) (k1.trans (.of_grow k2)))
end
end Mine
end
section
open PySem PySem.W PyProof.Rows PySem.Calls
set_option maxRecDepth 100000
namespace Mine
theorem sub_te_si : isSubtype (.type "TypeError") (.type "StopIteration") = pure false := by rw [isSubtype_type]; kernel_rfl
theorem sub_si_si : isSubtype (.type "StopIteration") (.type "StopIteration") = pure true := by rw [isSubtype_type]; kernel_rfl
section
variable {w : World} {A : Around} {E : Value → Shared → Prop} {h : Heap} {g : Array GenState} {d : Drawn} {tk : Nat} {os : OsState} {W l Mp tup f c : Addr} {items : Array Value} {i : Nat} {pm : Value} {mg mb : PySem.Str → Option Value} {ls : List Env}
/-- what list(map(decode, it)) stands on -/
structure MapSt (mg mb : PySem.Str → Option Value) (f c Mp tup W : Addr) (pm : Value) (h : Heap) : Prop where
  B : Base mg mb h
  hf : h.get? f = some (decObj c pm)
  hcd : h.CodeRec (.ref c) decQ
  hm : h.get? Mp = some (mapO tup f)
  ht : h.get? tup = some (tupO #[.ref W])
  h41 : nB ≤ W
theorem MapSt.keep {h h' : Heap} (M : MapSt mg mb f c Mp tup W pm h) (ww : Well h W l items i) (k : KeepS (· = W) h h') : MapSt mg mb f c Mp tup W pm h' := by
  obtain ⟨oW, hoW, hcW, hdW⟩ := ww.it
  have hne : ∀ {a : Addr} {o : Obj}, h.get? a = some o → o.cls ≠ .type "list_iterator" → a ≠ W := fun ha hc q => by subst q; rw [ha] at hoW; cases hoW; exact hc hcW
  have h41 := M.h41
  have n0 : ¬ (0 : Addr) = W := fun q => by rw [← q] at h41; exact absurd h41 (by decide)
  have n2 : ¬ (2 : Addr) = W := fun q => by rw [← q] at h41; exact absurd h41 (by decide)
  have n3 : ¬ (3 : Addr) = W := fun q => by rw [← q] at h41; exact absurd h41 (by decide)
  refine ⟨k.base n0 n2 n3 M.B, k.get (hne M.hf (by simp [decObj])) M.hf (fun _ _ q => by cases q), ?_, k.get (hne M.hm (by simp)) M.hm (fun _ _ q => by cases q), k.get (hne M.ht (by simp)) M.ht (fun _ _ q => by cases q), h41⟩
  obtain ⟨c', o, vs, t, e, ho, hd, hv⟩ := M.hcd
  refine ⟨c', o, vs, t, e, k.get (fun q => ?_) ho (fun _ _ q => by rw [hd] at q; cases q), hd, hv⟩
  have q : c' = W := q
  subst q
  rw [ho] at hoW; cases hoW
  rcases hdW with hdW | ⟨hdW, _⟩ <;> rw [hd] at hdW <;> cases hdW <;> simp at hv
theorem map_end {Q : Option Value → Shared → Prop} (hA : A.handled = none) (M : MapSt mg mb f c Mp tup W pm h) (ww : Well h W l items i) (hx : items[i]? = none)
    (hq : ∀ h', Well h' W l items i → KeepS (· = W) h h' → Q none ⟨h', g, d, tk, os⟩) : wpAny (model P w) A (pyNext (.ref Mp)) Q E ⟨h, g, d, tk, os⟩ := by
  unfold pyNext
  refine wpAny_bind (wpAny_attempt (wpAny_callSpecial?_slot (name := PySem.Str.ofString "__next__") (tyRef M.hm rfl) map_next (map_tree M.hm M.ht ?_)))
  refine wpAny_callSpecial?_slot (name := PySem.Str.ofString "__next__") ww.type slot_listiter_next (well_end hA ww hx fun h1 e w1 s1 he => ?_)
  obtain ⟨o, ho, hc⟩ := he
  refine wpAny_bind (wpAny_isInstance (tyRef ho hc) sub_si_si ?_)
  exact wpAny_pure (hq h1 w1 (KeepS.of_extBut s1 rfl))
theorem map_raise {v : Value} {x : Thing} {Q : Option Value → Shared → Prop} (N : Names mg mb) (hroom : A.depth + 3 < recursionLimit) (hA : A.handled = none) (hfr : A.frames = some ls) (F : Frs h ls) (hg : A.guards = some []) (hu : A.units + 60 < cLine)
    (hsz : nB ≤ h.objs.size) (M : MapSt mg mb f c Mp tup W pm h) (ww : Well h W l items i) (hx : items[i]? = some v) (hv : Is h v x) (hb : x.isB = false) (ho : x.ok)
    (hq : ∀ h' e tk', Well h' W l items (i + 1) → RaisedX (· = W) h h' e (dueOf x) → Frs h' ls → e ≠ W → E (.ref e) ⟨h', g, d, tk', os⟩) : wpAny (model P w) A (pyNext (.ref Mp)) Q E ⟨h, g, d, tk, os⟩ := by
  obtain ⟨oW, hoW, hcW, hdW⟩ := ww.it
  unfold pyNext
  refine wpAny_bind (wpAny_attempt (wpAny_callSpecial?_slot (name := PySem.Str.ofString "__next__") (tyRef M.hm rfl) map_next (map_tree M.hm M.ht ?_)))
  refine wpAny_callSpecial?_slot (name := PySem.Str.ofString "__next__") ww.type slot_listiter_next (well_item ww hx fun h1 w1 s1 => ?_)
  have k1 : KeepS (· = W) h h1 := KeepS.of_sameBut s1 rfl
  have M1 := M.keep ww k1
  refine ⟨_, rfl, ⟨_, M1.hm, rfl⟩, ?_⟩
  have hv1 : Is h1 v x := by
    rcases hdW with hdW | ⟨hdW, _⟩
    · exact hv.keepF k1 hoW hdW
    · exact hv.keepF k1 hoW hdW
  have F1 : Frs h1 ls := F.keep k1 fun env he L hL q => by
    have q : L = W := q
    subst q
    exact F.not_mem hoW (fun es n q => by rcases hdW with hdW | ⟨hdW, _⟩ <;> rw [hdW] at q <;> cases q) env he hL
  refine dec_raise N (by show A.depth + 2 < _; omega) hA hfr F1 hg (by show A.units + 1 + 50 < _; omega) M1.B (by rw [s1.1]; exact hsz) M1.hf M1.hcd hv1 hb ho fun h2 e tk2 r F2 => ?_
  have hr := r
  obtain ⟨hm, t, tn, c2, kk, n, X, ht⟩ := r
  have heW : e ≠ W := fun q => by
    subst q
    obtain ⟨_, o1, ho1, _⟩ := w1
    rw [n] at ho1; cases ho1
  obtain ⟨_, _, o, vs, he, hc, _⟩ := X
  refine wpAny_bind (wpAny_isInstance (tyRef he hc) sub_te_si ?_)
  refine wpAny_throw ?_
  have kk2 : KeepS Nil h1 h2 := (RaisedX.of (X := Nil) (KeepS.refl Nil h1) id hr).keep
  exact hq h2 e tk2 (w1.keep kk2 id id) (RaisedX.of k1 heW hr) F2 heW
end
end Mine
end
section
open PySem PySem.W PyProof.Rows PySem.Calls
set_option maxRecDepth 100000
namespace Mine
noncomputable def scan : List Thing → Nat × Option Thing
  | [] => (0, none)
  | x :: xs => if x.isB then ((scan xs).1 + 1, (scan xs).2) else (1, some x)
theorem scan_none {xs : List Thing} (h : (scan xs).2 = none) : (scan xs).1 = xs.length ∧ ∀ x ∈ xs, x.isB = true := by
  induction xs with
  | nil => exact ⟨rfl, fun _ q => (nomatch q)⟩
  | cons x xs ih =>
    unfold scan at h ⊢
    by_cases hb : x.isB = true
    · rw [if_pos hb] at h ⊢
      obtain ⟨a, b⟩ := ih h
      refine ⟨by simp [a], fun y hy => ?_⟩
      rcases List.mem_cons.mp hy with rfl | hy
      · exact hb
      · exact b y hy
    · rw [if_neg hb] at h; cases h
theorem scan_step {xs : List Thing} {k : Nat} (hk : ∀ x ∈ xs.take k, x.isB = true) {x : Thing} (hx : xs[k]? = some x) (hb : x.isB = false) : scan xs = (k + 1, some x) := by
  induction xs generalizing k with
  | nil => simp at hx
  | cons y xs ih =>
    cases k with
    | zero => simp at hx; subst hx; unfold scan; rw [if_neg (by rw [hb]; simp)]
    | succ k =>
      have hy := hk y (by simp)
      unfold scan
      rw [if_pos hy, ih (k := k) (fun z hz => hk z (by simp [hz])) (by simpa using hx)]
theorem scan_all {xs : List Thing} (hk : ∀ x ∈ xs, x.isB = true) : scan xs = (xs.length, none) := by
  induction xs with
  | nil => rfl
  | cons y xs ih => unfold scan; rw [if_pos (hk y (List.mem_cons_self ..)), ih fun z hz => hk z (List.mem_cons_of_mem _ hz)]; rfl
def Texts (acc : Array Value) (ys : List Thing) : Prop := acc.size = ys.length ∧ ∀ (j : Nat) (y : Thing), ys[j]? = some y → ∃ b t, y = .bytes b ∧ acc[j]? = some (.str (decTxt b) t)
theorem Texts.push {acc : Array Value} {ys : List Thing} {b : Array UInt8} {t : Tok} (h : Texts acc ys) : Texts (acc.push (.str (decTxt b) t)) (ys ++ [.bytes b]) := by
  refine ⟨by simp [h.1], fun j y hy => ?_⟩
  rw [List.getElem?_append] at hy
  split at hy
  · obtain ⟨b', t', e, ha⟩ := h.2 j y hy
    refine ⟨b', t', e, ?_⟩
    have hj : j < acc.size := (Array.getElem?_eq_some_iff.mp ha).1
    rw [Array.getElem?_push, if_neg (by omega)]; exact ha
  · have : j - ys.length = 0 := by
      rcases Nat.eq_zero_or_pos (j - ys.length) with q | q
      · exact q
      · rw [List.getElem?_eq_none (by simp; omega)] at hy; cases hy
    rw [this] at hy
    cases hy
    exact ⟨b, t, rfl, by rw [Array.getElem?_push, if_pos (by rw [h.1]; omega)]⟩
theorem Texts.isB {acc : Array Value} {ys : List Thing} (h : Texts acc ys) : ∀ x ∈ ys, x.isB = true := by
  intro x hx
  obtain ⟨j, hj⟩ := List.getElem?_of_mem hx
  obtain ⟨b, t, e, _⟩ := h.2 j x hj
  subst e; rfl
structure Things (h : Heap) (items : Array Value) (xs : List Thing) : Prop where
  len : items.size = xs.length
  is : ∀ (j : Nat) (v : Value) (x : Thing), items[j]? = some v → xs[j]? = some x → Is h v x
  ok : ∀ x ∈ xs, x.ok
theorem Things.keepF {h h' : Heap} {items : Array Value} {xs : List Thing} {W : Addr} {o : Obj} {vs : Array Value} (T : Things h items xs) (k : KeepS (· = W) h h') (hW : h.get? W = some o) (hd : o.data = .fields vs) : Things h' items xs :=
  ⟨T.len, fun j v x hv hx => (T.is j v x hv hx).keepF k hW hd, T.ok⟩
theorem Things.keep {X : Addr → Prop} {h h' : Heap} {items : Array Value} {xs : List Thing} (T : Things h items xs) (k : KeepS X h h') (hx : ∀ (j : Nat) (a : Addr), items[j]? = some (.ref a) → ¬ X a) : Things h' items xs :=
  ⟨T.len, fun j v x hv hx' => (T.is j v x hv hx').keep k fun a ha => hx j a (ha ▸ hv), T.ok⟩
section
variable {w : World} {A : Around} {E : Value → Shared → Prop} {h : Heap} {g : Array GenState} {d : Drawn} {tk : Nat} {os : OsState} {W l Mp tup f c : Addr} {items : Array Value} {i : Nat} {pm : Value} {mg mb : PySem.Str → Option Value} {ls : List Env}
theorem Is.bytes {h : Heap} {v : Value} {x : Thing} (hv : Is h v x) (hb : x.isB = true) : ∃ b t, v = .bytes b t ∧ x = .bytes b := by
  cases x with
  | bytes b => cases v with | bytes b' t => (cases (show b' = b from hv); exact ⟨_, _, rfl, rfl⟩) | _ => exact hv.elim
  | _ => cases hb
theorem Frs.notW {h : Heap} {ls : List Env} {W l : Addr} {items : Array Value} {i : Nat} (F : Frs h ls) (w : Well h W l items i) : ∀ env ∈ ls, ∀ L, env.frame = some L → ¬ L = W := by
  intro env he L hL q
  subst q
  obtain ⟨o, ho, _, hd⟩ := w.it
  exact F.not_mem ho (fun es n q => by rcases hd with hd | ⟨hd, _⟩ <;> rw [hd] at q <;> cases q) env he hL
theorem drain {xs : List Thing} {Q : Value → Shared → Prop} (N : Names mg mb) (hroom : A.depth + 3 < recursionLimit) (hA : A.handled = none) (hfr : A.frames = some ls) (F : Frs h ls) (hg : A.guards = some []) (hu : A.units + 70 < cLine)
    (hsz : nB ≤ h.objs.size) (M : MapSt mg mb f c Mp tup W pm h) (ww : Well h W l items i) (hi : i ≤ items.size) (T : Things h items xs) (hmany : items.size ≤ 1000)
    (hq : (scan (xs.drop i)).2 = none → ∀ h' S acc cc tk', KeepS (· = W) h h' → Well h' W l items items.size → h.get? S = none → h'.get? S = some (lstO acc cc) → Texts acc (xs.drop i) → Frs h' ls → Q (.ref S) ⟨h', g, d, tk', os⟩)
    (hE : ∀ n x, scan (xs.drop i) = (n, some x) → ∀ h' e tk', Well h' W l items (i + n) → RaisedX (· = W) h h' e (dueOf x) → Frs h' ls → e ≠ W → E (.ref e) ⟨h', g, d, tk', os⟩) :
    wpAny (model P w) A (call (.type "list") [.ref Mp]) Q E ⟨h, g, d, tk, os⟩ := by
  obtain ⟨oW, hoW, hcW, hdW⟩ := ww.it
  have hfld : ∃ vs, oW.data = .fields vs := by rcases hdW with q | ⟨q, _⟩ <;> exact ⟨_, q⟩
  obtain ⟨vsW, hvW⟩ := hfld
  have hSn : h.get? h.objs.size = none := Heap.get?_none_of_le (Nat.le_refl _)
  have hSW : h.objs.size ≠ W := Nat.ne_of_gt (Heap.lt_size hoW)
  refine list_call (T := "map") M.hm rfl ⟨by decide, by decide, map_no_len, map_no_hint⟩ (fun A s Q E hI q => map_pyIter hI rfl q) fun h1 c1 s1 hS1 => ?_
  have k1 : KeepS Nil h h1 := (KeepS.of_grow (Grow.push h (lstO #[] 0)) : KeepS Nil h _).drop (KeepS.of_sameBut (X := (· = h.objs.size)) s1 rfl) fun b hb _ => hb ▸ hSn
  generalize hS : h.objs.size = S at *
  have notFr : ∀ {h' : Heap} {acc cc}, Frs h' ls → h'.get? S = some (lstO acc cc) → ∀ env ∈ ls, ∀ L, env.frame = some L → ¬ L = S := fun F' hS' env he L hL q => by
    subst q
    exact F'.not_mem hS' (fun es n q => by cases q) env he hL
  refine ext_loop (J := fun n acc s => ∃ h' tk' k, s = ⟨h', g, d, tk', os⟩ ∧ KeepS (· = W) h h' ∧ Well h' W l items (i + k) ∧ i + k ≤ items.size ∧ n = items.size - (i + k) ∧ Texts acc ((xs.drop i).take k) ∧ Frs h' ls) ?_
    (items.size - i) #[] _ c1 ⟨h1, tk, 0, rfl, k1.mono fun _ q => q.elim, ww.keep k1 id id, hi, rfl, ⟨by simp, fun j y hy => by simp at hy⟩, F.keep k1 fun _ _ _ _ => id⟩ hS1
  rintro n acc s cc ⟨h', tk', k, rfl, kk, w', hik, rfl, hacc, F'⟩ hS'
  have M' := M.keep ww kk
  have T' := T.keepF kk hoW hvW
  have hT := T.len
  have hszh : nB ≤ h'.objs.size := Nat.le_trans hsz (Nat.le_of_lt (Heap.lt_size hS'))
  by_cases hend : i + k = items.size
  · refine map_end hA M' w' (Array.getElem?_eq_none (by omega)) fun h2 w2 k2 => ⟨⟨cc, k2.get hSW hS' (fun _ _ q => by cases q)⟩, rfl, ?_⟩
    have hall : (xs.drop i).take k = xs.drop i := List.take_of_length_le (by simp; omega)
    rw [hall] at hacc
    refine hq (by rw [scan_all hacc.isB]) h2 S acc cc tk' (kk.trans k2) (hend ▸ w2) hSn (k2.get hSW hS' (fun _ _ q => by cases q)) hacc (F'.keep k2 (F'.notW w'))
  · have hlt : i + k < items.size := by omega
    have hlt2 : i + k < xs.length := by omega
    have hxk : (xs.drop i)[k]? = some xs[i + k] := by rw [List.getElem?_drop, List.getElem?_eq_getElem hlt2]
    have hv := T'.is (i + k) items[i + k] xs[i + k] (Array.getElem?_eq_getElem hlt) (List.getElem?_eq_getElem hlt2)
    have hok := T.ok xs[i + k] (List.getElem_mem _)
    cases hb : (xs[i + k]).isB with
    | true =>
      obtain ⟨b, t, ev, ex⟩ := hv.bytes hb
      have hbs : b.size ≤ 1000 := by
        rw [ex] at hok
        have : b.size ≤ 2 := hok
        omega
      refine map_bytes (by show A.depth < _; omega) M'.B M'.hf M'.hcd M'.hm M'.ht w' (by rw [Array.getElem?_eq_getElem hlt, ev]) hbs M'.h41 fun h2 t2 tk2 w2 k2 => ?_
      have hS2 := k2.get hSW hS' (fun _ _ q => by cases q)
      refine ⟨⟨cc, hS2⟩, ?_, fun h3 s3 hS3 => ?_⟩
      · rw [hacc.1]; simp; omega
      · have k3 : KeepS (· = S) h2 h3 := KeepS.of_sameBut s3 rfl
        have hlS : l ≠ S := fun q => by
          subst q
          obtain ⟨⟨ol, hol, _⟩, _⟩ := ww
          rw [hSn] at hol; cases hol
        have F2 := F'.keep k2 (F'.notW w')
        obtain ⟨c3, hS3⟩ := hS3
        refine ⟨items.size - (i + (k + 1)), by omega, h3, tk2, k + 1, rfl, (kk.trans k2).drop k3 (fun b hb _ => hb ▸ hSn), w2.keep k3 (Ne.symm hSW) hlS, by omega, rfl, ?_, F2.keep k3 (notFr F2 hS2)⟩
        rw [List.take_add_one, hxk, ex]
        exact hacc.push
    | false =>
      refine map_raise N (by show A.depth + 3 < _; omega) hA hfr F' hg (by show A.units + 1 + 1 + 60 < _; omega) hszh M' w' (Array.getElem?_eq_getElem hlt) hv hb hok fun h2 e tk2 w2 r F2 heW => ?_
      refine hE (k + 1) xs[i + k] (scan_step hacc.isB hxk hb) h2 e tk2 w2 (r.pre kk heW) F2 heW
end
end Mine
end
section
open PySem PySem.W PyProof.Rows PySem.Calls
set_option maxRecDepth 100000
namespace Mine
abbrev dbQ : PySem.Str := PySem.Str.ofString "diff_bytes"
def dbFd (pm : Value) : FuncData := defFd dbQ dbQ dbParams dbBody dbScope mainGlobals (.ref 15) .none none pm (.ref 21) .none
abbrev ocQ : PySem.Str := PySem.Str.ofString "_law_octets"
abbrev otQ : PySem.Str := PySem.Str.ofString "_law_other"
def ocFd (pm : Value) : FuncData := defFd ocQ ocQ (fnParams 3) (fnBody 3) (fnScope 3) mainGlobals .none .none none pm (.ref 26) .none
def otFd (pm : Value) : FuncData := defFd otQ otQ (fnParams 4) (fnBody 4) (fnScope 4) mainGlobals .none .none none pm (.ref 33) .none
def dbObj (pm : Value) : Obj := { cls := .type "function", data := .func (dbFd pm) }
abbrev dbEnv (L : Addr) (pm : Value) : Env := callEnv (dbFd pm) L 22
/-- an object of the class code, with its qualname -/
def CodeOk (h : Heap) (c : Addr) (q : PySem.Str) : Prop := ∃ o vs t, h.get? c = some o ∧ o.cls = .type "code" ∧ o.data = .fields vs ∧ vs[1]? = some (.str q t)
theorem CodeOk.rec {h : Heap} {c : Addr} {q : PySem.Str} (x : CodeOk h c q) : h.CodeRec (.ref c) q := let ⟨o, vs, t, a, _, b, d⟩ := x; ⟨c, o, vs, t, rfl, a, b, d⟩
theorem CodeOk.keep {X : Addr → Prop} {h h' : Heap} {c : Addr} {q : PySem.Str} (x : CodeOk h c q) (k : KeepS X h h') (hx : ¬ X c) : CodeOk h' c q :=
  let ⟨o, vs, t, a, e, b, d⟩ := x; ⟨o, vs, t, k.get hx a (fun _ _ q => by rw [b] at q; cases q), e, b, d⟩
def pmOf (mg : PySem.Str → Option Value) : Value := (mg "__name__").getD .none
/-- a code's table: what it holds for the place p, if anything, is a good code -/
def TabOk (h : Heap) (c P : Addr) (pos : Pos) (q : PySem.Str) : Prop :=
  ∃ ps, h.IsCode c P ps ∧ h.TableAt c P ps ∧ (codeAmong pos ps.toList = none ∨ ∃ c', codeAmong pos ps.toList = some (.ref c') ∧ nB ≤ c' ∧ CodeOk h c' q)
structure Sys (mg mb : PySem.Str → Option Value) (h : Heap) : Prop where
  N : Names mg mb
  B : Base mg mb h
  bm : mg "__builtins__" = some (.ref 4)
  b4 : h.get? 4 = some { cls := .type "module", dict := some 0, data := .plain }
  db : ∃ pm, h.get? 22 = some (dbObj pm)
  dbc : h.CodeRec (.ref 21) dbQ
  d15 : ∃ t1 t2 t3 t4 t5 t6 : Tok, h.get? 15 = some { cls := .type "tuple", data := .seq #[.bytes #[] t1, .bytes #[] t2, .bytes #[] t3, .bytes #[] t4, .int 3 t5, .bytes #[10] t6] }
  oc : ∃ pm, h.get? 27 = some { cls := .type "function", data := .func (ocFd pm) }
  occ : h.CodeRec (.ref 26) ocQ
  ot : ∃ pm, h.get? 34 = some { cls := .type "function", data := .func (otFd pm) }
  otc : h.CodeRec (.ref 33) otQ
  tab : TabOk h 21 17 decPos decQ
/-- what may be changed: no old object but the code tables, no code -/
def Fair (X : Addr → Prop) (h : Heap) : Prop := ∀ a, X a → nB ≤ a ∧ ∀ o vs, h.get? a = some o → o.cls = .type "code" → o.data ≠ .fields vs
theorem Fair.ns {h : Heap} {L : Addr} {m : PySem.Str → Option Value} (hn : h.Ns L m) (hL : nB ≤ L) : Fair (· = L) h := fun a ha => ⟨ha ▸ hL, fun o vs ho _ q => by
  subst ha
  obtain ⟨o', es, n, ho', hd', _⟩ := hn
  rw [ho] at ho'
  cases ho'
  rw [q] at hd'; cases hd'⟩
theorem Fair.or {X Y : Addr → Prop} {h : Heap} (x : Fair X h) (y : Fair Y h) : Fair (fun a => X a ∨ Y a) h := fun a ha => ha.elim (x a) (y a)
theorem Fair.mono {X Y : Addr → Prop} {h : Heap} (y : Fair Y h) (hx : ∀ a, X a → Y a) : Fair X h := fun a ha => y a (hx a ha)
theorem Fair.cls {h : Heap} {a : Addr} {o : Obj} (ha : h.get? a = some o) (hc : o.cls ≠ .type "code") (hb : nB ≤ a) : Fair (· = a) h := fun b hb' => ⟨hb' ▸ hb, fun o' vs ho' hc' => by
  subst hb'
  rw [ha] at ho'
  cases ho'
  exact absurd hc' hc⟩
theorem Fair.nil {h : Heap} : Fair Nil h := fun _ q => q.elim
theorem CodeRec.keepS {X : Addr → Prop} {h h' : Heap} {c : Addr} {q : PySem.Str} (x : h.CodeRec (.ref c) q) (k : KeepS X h h') (hx : ¬ X c) : h'.CodeRec (.ref c) q := by
  obtain ⟨c₂, o, vs, t, e, a, b, d⟩ := x
  cases e
  exact ⟨c, o, vs, t, rfl, k.get hx a (fun _ _ q => by rw [b] at q; cases q), b, d⟩
theorem IsCode.keepS {X : Addr → Prop} {h h' : Heap} {c P : Addr} {ps : Array Value} (x : h.IsCode c P ps) (k : KeepS X h h') (hc : ¬ X c) (hP : ¬ X P) : h'.IsCode c P ps := by
  obtain ⟨o, vs, file, tf, flags, tg, inF, text, tt, op, a, r1, r2, r3, r4, r5, r6, b, r7, r8, r9⟩ := x
  exact ⟨o, vs, file, tf, flags, tg, inF, text, tt, op, k.get hc a (fun _ _ q => by rw [r1] at q; cases q), r1, r2, r3, r4, r5, r6, k.get hP b (fun _ _ q => by rw [r7] at q; cases q), r7, r8, r9⟩
theorem TableAt.keepS {X : Addr → Prop} {h h' : Heap} {c P : Addr} {ps : Array Value} (x : h.TableAt c P ps) (k : KeepS X h h') (hc : ¬ X c) (hP : ¬ X P) : h'.TableAt c P ps := by
  obtain ⟨⟨o, vs, a, b, d, e⟩, t⟩ := x
  exact ⟨⟨o, vs, k.get hc a (fun _ _ q => by rw [d] at q; cases q), b, d, e⟩, k.get hP t (fun _ _ q => by cases q)⟩
theorem TabOk.keep {X : Addr → Prop} {h h' : Heap} {c P : Addr} {pos : Pos} {q : PySem.Str} (x : TabOk h c P pos q) (k : KeepS X h h') (F : Fair X h) (hc : c < nB) (hP : P < nB) : TabOk h' c P pos q := by
  obtain ⟨ps, i, t, z⟩ := x
  have nX : ∀ a, a < nB → ¬ X a := fun a ha q => absurd (F a q).1 (Nat.not_le_of_lt ha)
  refine ⟨ps, IsCode.keepS i k (nX c hc) (nX P hP), TableAt.keepS t k (nX c hc) (nX P hP), ?_⟩
  rcases z with z | ⟨c', z, zb, zc⟩
  · exact .inl z
  · refine .inr ⟨c', z, zb, zc.keep k fun q => ?_⟩
    obtain ⟨o, vs, _, ho, hcls, hd, _⟩ := zc
    exact (F c' q).2 o vs ho hcls hd
theorem Sys.keepT {X : Addr → Prop} {h h' : Heap} {mg mb : PySem.Str → Option Value} (S : Sys mg mb h) (k : KeepS X h h') (nX : ∀ a, a < nB → a ≠ 17 → a ≠ 36 → ¬ X a) (T : TabOk h' 21 17 decPos decQ) : Sys mg mb h' := by
  obtain ⟨pm, hdb⟩ := S.db
  obtain ⟨pm', hoc⟩ := S.oc
  obtain ⟨pm'', hot⟩ := S.ot
  have n : ∀ a, (a < nB ∧ a ≠ 17 ∧ a ≠ 36) → ¬ X a := fun a q => nX a q.1 q.2.1 q.2.2
  refine ⟨S.N, k.base (n _ (by decide)) (n _ (by decide)) (n _ (by decide)) S.B, S.bm, k.old (n _ (by decide)) S.b4 (by decide), ⟨pm, k.old (n _ (by decide)) hdb (by decide)⟩,
    CodeRec.keepS S.dbc k (n _ (by decide)), (let ⟨a1, a2, a3, a4, a5, a6, q⟩ := S.d15; ⟨a1, a2, a3, a4, a5, a6, k.old (n _ (by decide)) q (by decide)⟩), ⟨pm', k.old (n _ (by decide)) hoc (by decide)⟩, CodeRec.keepS S.occ k (n _ (by decide)), ⟨pm'', k.old (n _ (by decide)) hot (by decide)⟩, CodeRec.keepS S.otc k (n _ (by decide)), T⟩
theorem Sys.keep {X : Addr → Prop} {h h' : Heap} {mg mb : PySem.Str → Option Value} (S : Sys mg mb h) (k : KeepS X h h') (F : Fair X h) : Sys mg mb h' :=
  S.keepT k (fun a ha _ _ q => absurd (F a q).1 (Nat.not_le_of_lt ha)) (S.tab.keep k F (by decide) (by decide))
theorem Sys.builtinsAt {h : Heap} {mg mb : PySem.Str → Option Value} (S : Sys mg mb h) {P : Addr} (hP : P ≠ 4) : h.BuiltinsAt mg P :=
  ⟨4, _, S.bm, by decide, by decide, Ne.symm hP, S.b4, rfl, rfl, rfl⟩
def decDef : Stmt := match dbBody with | x :: _ => x | _ => default
theorem dec_nofree : ∀ x ∈ decScope.names, x.2 ≠ .free := by decide
section
variable {w : World} {A : Around} {E : Value → Shared → Prop} {h : Heap} {g : Array GenState} {d : Drawn} {tk : Nat} {os : OsState} {mg mb : PySem.Str → Option Value} {L : Addr} {pm : Value} {m : PySem.Str → Option Value}
/-- a function object is made for a def whose place the code table may know already -/
theorem make_fn {M : Model} {name qualname : PySem.Str} {params : Arguments} {body : List Stmt} {scope : Scope} {env : Env} {c Pl : Addr} {pos : Pos} {firstLine : Nat} {Q : Value → Shared → Prop}
    (hfree : ∀ x ∈ scope.names, x.2 ≠ .free) (hdoc : docOf body = none) (hgl : env.globals = mainGlobals) (hcode : env.code = .ref c) (S : Sys mg mb h) (T : TabOk h c Pl pos qualname) (hP4 : Pl ≠ 4) (hP3 : Pl ≠ 3) (hPn : Pl < nB) (hcn : c < nB) (hz : nB ≤ h.objs.size)
    (hq : ∀ c' h' tk', KeepS (· = Pl) h h' → nB ≤ c' → CodeOk h' c' qualname → TabOk h' c Pl pos qualname → (∀ a o, h.get? a = some o → o.cls = .type "code" → h'.get? a = some o) →
      (∃ ps0 ps, h.get? Pl = some { cls := .none, data := .fields ps0 } ∧ h'.get? Pl = some { cls := .none, data := .fields (ps0 ++ ps) }) →
      Q (.ref h'.objs.size) ⟨h'.push { cls := .type "function", data := .func (defFd name qualname params body scope mainGlobals .none .none none (pmOf mg) (.ref c') .none) }, g, d, tk', os⟩) :
    wpAny M A (makeFunction name qualname params (.stmts body) scope env [] [] [] pos firstLine) Q E ⟨h, g, d, tk, os⟩ := by
  have hc : closureFor scope env = pure [] := closureFor_none hfree
  simp only [makeFunction, List.zip_nil_right, List.filterMap_nil, List.isEmpty_nil, if_true, pure_bind, hc, hdoc]
  obtain ⟨ps, hi, ht, z⟩ := T
  rw [hgl]
  rcases z with z | ⟨c', z, hc', zc⟩
  · refine wpAny_bind (wpAny_functionCodeX hcode hi ht z fun c' h' tk' hx hge hlt hok' hrec htb' htb => ?_)
    obtain ⟨bm, o, hbm, hne0, _, hneP, hbo, hcls, hdict, hdata⟩ := S.builtinsAt hP4
    have hg' := S.B.glob.extBut hx (Ne.symm hP3)
    refine wpAny_bind (wpAny_builtinsFor hg' hbm hne0 (hx _ _ hneP hbo) hcls hdict hdata ?_)
    refine wpAny_bind (wpAny_nsGet hg' ?_)
    simp only [newObj]
    have k : KeepS (· = Pl) h h' := KeepS.of_extBut hx rfl
    have hco : CodeOk h' c' qualname := by
      obtain ⟨P', _, _, ⟨⟨oc, vc, hoc, hcc, hdc, h11⟩, _⟩⟩ := htb
      obtain ⟨c₂, o₂, vs, t, e, a, b, dd⟩ := hrec
      cases e
      rw [a] at hoc
      cases hoc
      exact ⟨_, _, _, a, hcc, b, dd⟩
    have hcn : nB ≤ c' := Nat.le_trans hz hge
    refine wpAny_bind (wpAny_alloc (wpAny_pure (hq c' h' tk' k hcn hco ⟨_, hok', htb', .inr ⟨c', ?_, hcn, hco⟩⟩ ?_ ⟨ps, _, ht.2, htb'.2⟩)))
    · have hl : (ps ++ #[rawInt pos.line, rawInt pos.col, Value.ref c']).toList = ps.toList ++ [rawInt pos.line, rawInt pos.col, .ref c'] := by simp
      obtain ⟨_, _, _, _, _, _, _, _, _, _, _, _, _, _, _, _, _, _, _, htr, _⟩ := hi
      rw [hl, codeAmong_snoc _ htr z]
    · intro a o ha hcl
      refine hx a o (fun q => ?_) ha
      subst q
      have := ht.2
      rw [ha] at this
      cases this
      cases hcl
  · refine wpAny_bind (wpAny_functionCode_hit hcode hi z ?_)
    obtain ⟨bm, o, hbm, hne0, _, hneP, hbo, hcls, hdict, hdata⟩ := S.builtinsAt hP4
    refine wpAny_bind (wpAny_builtinsFor S.B.glob hbm hne0 hbo hcls hdict hdata ?_)
    refine wpAny_bind (wpAny_nsGet S.B.glob ?_)
    simp only [newObj]
    refine wpAny_bind (wpAny_alloc (wpAny_pure (hq c' h tk (KeepS.refl _ _) hc' zc ⟨ps, hi, ht, .inr ⟨c', z, hc', zc⟩⟩ (fun _ _ e _ => e) ⟨ps, #[], ht.2, by simpa using ht.2⟩)))
theorem KeepS.push {X : Addr → Prop} {h h' : Heap} (k : KeepS X h h') (o : Obj) : KeepS X h (h'.push o) := k.trans (.of_grow (Grow.push h' o))
theorem TabOk.grow {h h' : Heap} {c P : Addr} {pos : Pos} {q : PySem.Str} (x : TabOk h c P pos q) (k : Grow h h') : TabOk h' c P pos q := by
  obtain ⟨ps, i, t, z⟩ := x
  refine ⟨ps, i.keeps k, t.keeps k, ?_⟩
  rcases z with z | ⟨c', z, zb, zc⟩
  · exact .inl z
  · refine .inr ⟨c', z, zb, let ⟨o, vs, t, a, r⟩ := zc; ⟨o, vs, t, k _ _ a, r⟩⟩
theorem exec_decDef (env : Env) : exec decDef env = (do
    standAt decPos
    let f ← holding [] (makeFunction (PySem.Str.ofString "decode") (qualnameIn env (PySem.Str.ofString "decode") (PySem.Str.ofString "decode")) decParams (.stmts decBody) decScope env [] [] [] decPos decPos.line)
    standAt decPos
    bindName env (PySem.Str.ofString "decode") f
    pure .next) := by kernel_rfl
theorem dec_doc : docOf decBody = none := by kernel_rfl
theorem def_decode {Q : Flow → Shared → Prop} (S : Sys mg mb h) (hn : h.Ns L m) (hL : nB ≤ L)
    (hq : ∀ f c h' tk', KeepS (fun a => a = L ∨ a = 17) h h' → h.get? f = none → h'.get? f = some (decObj c (pmOf mg)) → nB ≤ c → CodeOk h' c decQ → Sys mg mb h' →
      (∃ ps0 ps, h.get? 17 = some { cls := .none, data := .fields ps0 } ∧ h'.get? 17 = some { cls := .none, data := .fields (ps0 ++ ps) }) →
      h'.Ns L (fun x => if x = PySem.Str.ofString "decode" then some (.ref f) else m x) → Q .next ⟨h', g, d, tk', os⟩) :
    wpAny (model P w) A (exec decDef (dbEnv L pm)) Q E ⟨h, g, d, tk, os⟩ := by
  rw [exec_decDef]
  have hz : nB ≤ h.objs.size := Nat.le_of_lt (Nat.lt_of_le_of_lt hL hn.lt)
  refine wpAny_bind (wpAny_standAt (wpAny_bind (wpAny_holding ?_)))
  show wpAny _ _ (makeFunction (PySem.Str.ofString "decode") decQ decParams (.stmts decBody) decScope (dbEnv L pm) [] [] [] decPos decPos.line) _ _ _
  refine make_fn (c := 21) (Pl := 17) dec_nofree dec_doc rfl rfl S S.tab (by decide) (by decide) (by decide) (by decide) hz fun c' h' tk' k hc co T hcode tab => ?_
  have kp := KeepS.push k (decObj c' (pmOf mg))
  have hL17 : ¬ L = 17 := fun q => by subst q; exact absurd hL (by decide)
  have hn1 := kp.ns hL17 hn
  refine wpAny_bind (wpAny_standAt (wpAny_bind (wpAny_bindName (wpAny_storeName_local (env := dbEnv L pm) (by rfl) hn1 (fun h2 hn2 hs2 => wpAny_pure ?_) (by rfl)))))
  have hfn : h.get? h'.objs.size = none := k.none (b := h'.objs.size) (fun q => by
    have := hn.lt
    obtain ⟨o, _, _, ho, _⟩ := k.ns hL17 hn
    have := Heap.lt_size ho
    rw [q] at this
    exact absurd (Nat.lt_of_le_of_lt hL this) (by decide)) (Heap.get?_none_of_le (Nat.le_refl _))
  have hfL : h'.objs.size ≠ L := fun q => by
    obtain ⟨o, _, _, ho, _⟩ := hn
    rw [q, ho] at hfn; cases hfn
  have k2 : KeepS (· = L) (h'.push (decObj c' (pmOf mg))) h2 := KeepS.of_sameBut hs2 rfl
  have kk : KeepS (fun a => a = L ∨ a = 17) h h2 := (kp.mono fun _ q => .inr q).trans (k2.mono fun _ q => .inl q)
  have fairL := Fair.ns hn1 hL
  have T2 := (T.grow (Grow.push h' _)).keep k2 fairL (by decide) (by decide)
  have S2 : Sys mg mb h2 := S.keepT kk (fun a ha h17 _ q => q.elim (fun q => absurd (q ▸ ha) (Nat.not_lt_of_le hL)) h17) T2
  have hL17' : (17 : Addr) ≠ L := Ne.symm hL17
  refine hq h'.objs.size c' h2 (tk' + 1) kk hfn ?_ hc ?_ S2 ?_ hn2
  · exact k2.get hfL (Heap.get?_push_size _ rfl) (fun _ _ q => by cases q)
  · exact CodeOk.keep (let ⟨o, vs, t, a, r⟩ := co; ⟨o, vs, t, Heap.get?_push_of_some _ a, r⟩) k2 fun q => by
      subst q
      obtain ⟨o, vs, t, a, cc, dd, _⟩ := co
      obtain ⟨o', es, n, ho', hd', _⟩ := hn1
      rw [Heap.get?_push_of_some _ a] at ho'
      cases ho'
      rw [dd] at hd'; cases hd'
  · obtain ⟨ps0, ps, a, b⟩ := tab
    exact ⟨ps0, ps, a, k2.get hL17' (Heap.get?_push_of_some _ b) (fun _ _ q => by cases q)⟩
end
end Mine
end
section
open PySem PySem.W PyProof.Rows PySem.Calls
set_option maxRecDepth 100000
namespace Mine
theorem slot_map_init : Slot "map" "__init__" "object.__init__" :=
  .of (owner := "object") (n := "__init__") (by rw [typeLookup_type, builtinLookup_eq_fast]; kernel_rfl) (by decide +kernel) (by decide +kernel) (by decide +kernel)
    (by first | exact .inl (by decide +kernel) | exact .inr (by decide +kernel)) (by rw [isSubtype_type]; kernel_rfl)
theorem mro_map : mroOf (.type "map") = pure [.type "map", .type "object"] := by rw [mroOf_type]; kernel_rfl
theorem lookup_map_new : typeLookup (.type "map") "__new__" = pure (some (.builtin "map.__new__")) := by rw [typeLookup_type, builtinLookup_eq_fast]; kernel_rfl
theorem called_map : TypeCalled "map" "map.__new__" "object.__init__" :=
  ⟨by decide +kernel, by decide +kernel, ⟨_, _, mro_map⟩, madeBy_type mro_map lookup_map_new (by decide +kernel), by decide +kernel, by rw [isSubtype_type]; kernel_rfl, slot_map_init⟩
theorem typeCall_map_2 (a b : Value) : checkTypeCall "map" ⟨[a, b], []⟩ = pure () := by kernel_rfl
theorem newCall_map_2 (a b : Value) : checkBuiltinCall "map.__new__" ⟨[.type "map", a, b], []⟩ = pure () := by kernel_rfl
theorem entry_map_new : entryFor table "map.__new__" = some Builtin.«map.__new__» := entryFor_of_tree (by kernel_rfl)
theorem sub_map : isSubtype (.type "map") (.type "map") = pure true := by rw [isSubtype_type]; kernel_rfl
theorem Frs.storeAny {h h' : Heap} {L : Addr} {m : PySem.Str → Option Value} {ls : List Env} (F : Frs h ls) (hs : Heap.SameBut L h h') (hn : h'.Ns L m) : Frs h' ls := by
  intro env he
  obtain ⟨hk, L', o, es, n, hf', hb, ho, hd⟩ := F env he
  by_cases hLL : L' = L
  · subst hLL
    obtain ⟨o3, es3, n3, ho3, hd3, _⟩ := hn
    exact ⟨hk, L', o3, es3, n3, hf', hb, ho3, hd3⟩
  · exact ⟨hk, L', o, es, n, hf', hb, (hs.2 _ hLL).trans ho, hd⟩
theorem Well.ne_ns {h : Heap} {W l : Addr} {items : Array Value} {i : Nat} {m : PySem.Str → Option Value} (ww : Well h W l items i) (hn : h.Ns W m) : False := by
  obtain ⟨o, ho, _, hd⟩ := ww.it
  obtain ⟨o', es, n, ho', hd', _⟩ := hn
  rw [ho] at ho'
  cases ho'
  rcases hd with hd | ⟨hd, _⟩ <;> (rw [hd] at hd'; cases hd')
theorem Well.list_ne_ns {h : Heap} {W l : Addr} {items : Array Value} {i : Nat} {m : PySem.Str → Option Value} (ww : Well h W l items i) (hn : h.Ns l m) : False := by
  obtain ⟨o, ho, _, n, hd⟩ := ww.lst
  obtain ⟨o', es, n, ho', hd', _⟩ := hn
  rw [ho] at ho'
  cases ho'
  rw [hd] at hd'; cases hd'
section
variable {w : World} {A : Around} {E : Value → Shared → Prop} {h : Heap} {g : Array GenState} {d : Drawn} {tk : Nat} {os : OsState} {mg mb : PySem.Str → Option Value} {L W l f c : Addr} {pm : Value} {m : PySem.Str → Option Value} {items : Array Value} {i : Nat}
theorem well_iter {prog : Program} {Q : Value → Shared → Prop} {s : Shared} (ww : Well s.heap W l items i) (hq : Q (.ref W) s) : wpAny (model prog w) A (pyIter (.ref W)) Q E s := by
  refine wpAny_pyIter_slot ww.type slot_listiter_iter (wpAny_call_entry slot_listiter_iter ww.type entry_listiter_iter ?_ (args_listiter_iter _))
  show wpAny _ _ (ret (.ref W)) _ _ s
  exact wpAny_pure ⟨_, rfl, "list_iterator", _, ww.type, slot_listiter_next.lookup, hq⟩
theorem map_make {Q : Value → Shared → Prop} (ww : Well h W l items i)
    (hq : ∀ h' Mp tup, Grow h h' → h.get? Mp = none → h'.get? Mp = some (mapO tup f) → h'.get? tup = some (tupO #[.ref W]) → Q (.ref Mp) ⟨h', g, d, tk, os⟩) :
    wpAny (model P w) A (call (.type "map") [.ref f, .ref W]) Q E ⟨h, g, d, tk, os⟩ := by
  refine callType_new (S := fun A R s => s = ⟨h, g, d, tk, os⟩ ∧ R (.ok (.ret (.ref (h.objs.size + 1)))) ⟨(h.push (tupO #[.ref W])).push (mapO h.objs.size f), g, d, tk, os⟩) called_map (by decide +kernel) (typeCall_map_2 _ _) (newCall_map_2 _ _) (fun obj => PySem.F.args_object_init_3 _ _ _) entry_map_new ?_ ?_
  · refine Meets.of_wp fun prog w A R s hs => ?_
    obtain ⟨rfl, hr⟩ := hs
    unfold Builtin.«map.__new__» Builtin.SmallTypes.newClass
    have hsub := sub_map
    have ww' : Well (Shared.mk h g d tk os).heap W l items i := ww
    wp_walk using (well_iter ww')
    refine ⟨_, rfl, ?_⟩
    rw [Heap.size_push]
    exact hr
  · refine ⟨rfl, ?_⟩
    have hz : (h.push (tupO #[.ref W])).objs.size = h.objs.size + 1 := Heap.size_push ..
    have hM : ((h.push (tupO #[.ref W])).push (mapO h.objs.size f)).get? (h.objs.size + 1) = some (mapO h.objs.size f) := by rw [← hz]; exact Heap.get?_push_size _ rfl
    exact ⟨tyRef hM rfl, hq _ (h.objs.size + 1) h.objs.size ((Grow.push _ _).trans (Grow.push _ _)) (Heap.get?_none_of_le (Nat.le_succ _)) hM (Heap.get?_push_of_some _ (Heap.get?_push_size _ rfl))⟩
theorem map_stmt {nm : PySem.Str} {p1 p2 p3 p4 p5 p6 p7 p8 : Pos} {ls : List Env} {xs : List Thing} {Q : Flow → Shared → Prop} (S : Sys mg mb h) (hroom : A.depth + 3 < recursionLimit) (hA : A.handled = none) (hfr : A.frames = some ls) (F : Frs h ls) (hg : A.guards = some []) (hu : A.units + 70 < cLine)
    (hn : h.Ns L m) (hL : nB ≤ L) (hk : (dbEnv L pm).kindOf nm = some .local) (hdb : (nm == ("__debug__" : PySem.Str)) = false) (hdec : m (PySem.Str.ofString "decode") = some (.ref f)) (hnm : m nm = some (.ref W))
    (hf : h.get? f = some (decObj c (pmOf mg))) (hcd : CodeOk h c decQ) (hW : nB ≤ W) (ww : Well h W l items i) (hi : i ≤ items.size) (T : Things h items xs) (hmany : items.size ≤ 1000)
    (hq : (scan (xs.drop i)).2 = none → ∀ h' S acc cc tk', KeepS (fun a => a = W ∨ a = L) h h' → Well h' W l items items.size → h.get? S = none → h'.get? S = some (lstO acc cc) → Texts acc (xs.drop i) → Frs h' ls →
      h'.Ns L (fun x => if x = nm then some (.ref S) else m x) → Q .next ⟨h', g, d, tk', os⟩)
    (hE : ∀ n x, scan (xs.drop i) = (n, some x) → ∀ h' e tk', Well h' W l items (i + n) → RaisedX (· = W) h h' e (dueOf x) → Frs h' ls → e ≠ W → E (.ref e) ⟨h', g, d, tk', os⟩) :
    wpAny (model P w) A (exec (.Assign [.Name nm p1] (.Call (.Name (PySem.Str.ofString "list") p2) [.Call (.Name (PySem.Str.ofString "map") p3) [.Name (PySem.Str.ofString "decode") p4, .Name nm p5] [] p6] [] p7) p8) (dbEnv L pm)) Q E ⟨h, g, d, tk, os⟩ := by
  have hz : nB ≤ h.objs.size := Nat.le_of_lt (Nat.lt_of_le_of_lt hL hn.lt)
  refine wpAny_Assign_Name ?_
  refine wpAny_Call_ofName ?_
  refine name_bui S.N S.B rfl rfl rfl (by rfl) (S.N.no _ (by decide)) (by decide) (v := .type "list") (by decide +kernel) (by decide) ?_
  refine PyProof.Rows.callWith_type1 ?_
  refine spliced_cons ?_
  refine wpAny_Call_ofName ?_
  refine name_bui S.N S.B rfl rfl rfl (by rfl) (S.N.no _ (by decide)) (by decide) (v := .type "map") (by decide +kernel) (by decide) ?_
  refine PyProof.Rows.callWith_type1 ?_
  refine spliced_cons ?_
  refine wpAny_Name (wpAny_loadName_local rfl rfl hn hdec ?_)
  refine spliced_cons ?_
  refine wpAny_Name (hd := hdb) (wpAny_loadName_local rfl hk hn hnm ?_)
  refine spliced_nil ?_
  refine map_make ww fun h1 Mp tup k1 hMn hMp htup => ?_
  refine spliced_nil ?_
  have K1 : KeepS (· = W) h h1 := .of_grow k1
  have S1 := S.keep (KeepS.of_grow k1) Fair.nil
  have hz1 : nB ≤ h1.objs.size := Nat.le_of_lt (Nat.lt_of_le_of_lt hL (hn.keeps k1).lt)
  refine drain (xs := xs) (f := f) (c := c) (pm := pmOf mg) (tup := tup) S.N hroom hA hfr (F.keep (KeepS.of_grow k1 : KeepS Nil h h1) fun _ _ _ _ => id) hg hu hz1 ⟨S1.B, k1 _ _ hf, (hcd.rec).keeps k1, hMp, htup, hW⟩
    (ww.keep (KeepS.of_grow k1 : KeepS Nil h h1) id id) hi (T.keep (KeepS.of_grow k1 : KeepS Nil h h1) fun _ _ _ => id) hmany (fun hs h2 S acc cc tk' k2 w2 hS2 hSo tx F2 => ?_) fun n x hs h2 e tk' w2 r F2 he => ?_
  · have hLW : ¬ L = W := fun q => by
      subst q
      exact Well.ne_ns ww hn
    have kk := K1.trans k2
    have hn2 := kk.ns hLW hn
    refine wpAny_storeName_local hk hn2 (fun h3 hn3 hs3 => ?_) (by rfl)
    have k3 : KeepS (· = L) h2 h3 := KeepS.of_sameBut hs3 rfl
    have hSL : S ≠ L := fun q => by
      subst q
      obtain ⟨o, _, _, ho, hd, _⟩ := hn2
      rw [hSo] at ho; cases ho; cases hd
    refine hq hs h3 S acc cc (tk' + 1) ((kk.mono fun _ q => .inl q).trans (k3.mono fun _ q => .inr q)) (w2.keep k3 (Ne.symm hLW) fun q => ?_) ?_ (k3.get hSL hSo (fun _ _ q => by cases q)) tx ?_ hn3
    · subst q
      exact Well.list_ne_ns w2 hn2
    · cases hq : h.get? S with
      | none => rfl
      | some o => rw [k1 _ _ hq] at hS2; cases hS2
    · exact F2.storeAny hs3 hn3
  · exact hE n x hs h2 e tk' w2 (r.pre K1 he) F2 he
end
end Mine
end
section
open PySem PySem.W PyProof.Rows PySem.Calls
set_option maxRecDepth 100000
namespace Mine
section
variable {w : World} {A : Around} {E : Value → Shared → Prop} {h : Heap} {g : Array GenState} {d : Drawn} {tk : Nat} {os : OsState} {mg mb : PySem.Str → Option Value} {L f c : Addr} {pm : Value} {m : PySem.Str → Option Value}
theorem dec_stmt {nm : PySem.Str} {p1 p2 p3 p4 p5 : Pos} {ls : List Env} {v : Value} {x : Thing} {Q : Flow → Shared → Prop} (S : Sys mg mb h) (hroom : A.depth + 3 < recursionLimit) (hA : A.handled = none) (hfr : A.frames = some ls) (F : Frs h ls) (hg : A.guards = some []) (hu : A.units + 70 < cLine)
    (hn : h.Ns L m) (hL : nB ≤ L) (hk : (dbEnv L pm).kindOf nm = some .local) (hdb : (nm == ("__debug__" : PySem.Str)) = false) (hdec : m (PySem.Str.ofString "decode") = some (.ref f)) (hnm : m nm = some v)
    (hf : h.get? f = some (decObj c (pmOf mg))) (hcd : CodeOk h c decQ) (hv : Is h v x) (ho : x.ok)
    (hq : ∀ b, x = .bytes b → ∀ h' t tk', KeepS (· = L) h h' → Frs h' ls → h'.Ns L (fun y => if y = nm then some (.str (decTxt b) t) else m y) → Q .next ⟨h', g, d, tk', os⟩)
    (hE : x.isB = false → ∀ h' e tk', Raised h h' e (dueOf x) → Frs h' ls → E (.ref e) ⟨h', g, d, tk', os⟩) :
    wpAny (model P w) A (exec (.Assign [.Name nm p1] (.Call (.Name (PySem.Str.ofString "decode") p2) [.Name nm p3] [] p4) p5) (dbEnv L pm)) Q E ⟨h, g, d, tk, os⟩ := by
  have hz : nB ≤ h.objs.size := Nat.le_of_lt (Nat.lt_of_le_of_lt hL hn.lt)
  refine wpAny_Assign_Name ?_
  refine wpAny_Call_ofName ?_
  refine wpAny_Name (wpAny_loadName_local rfl rfl hn hdec ?_)
  refine callWith_def (fd := decFd c (pmOf mg)) (o := decObj c (pmOf mg)) rfl ?_
  refine spliced_cons ?_
  refine wpAny_Name (hd := hdb) (wpAny_loadName_local rfl hk hn hnm ?_)
  refine spliced_nil ⟨hf, ?_⟩
  cases hb : x.isB with
  | true =>
    obtain ⟨b, t, rfl, rfl⟩ := hv.bytes hb
    have hbs : b.size ≤ 1000 := by
      have : b.size ≤ 2 := ho
      omega
    refine dec_bytes (by omega) S.B hf hcd.rec hbs fun h1 t1 tk1 k1 => ?_
    have hn1 := hn.keeps k1
    refine wpAny_storeName_local hk hn1 (fun h2 hn2 hs2 => ?_) (by rfl)
    refine hq b rfl h2 t1 (tk1 + 1) ((KeepS.of_grow k1).trans (KeepS.of_sameBut (X := (· = L)) hs2 rfl)) ?_ hn2
    exact (F.keep (KeepS.of_grow k1 : KeepS Nil h h1) fun _ _ _ _ => id).storeAny hs2 hn2
  | false =>
    exact dec_raise S.N (by omega) hA hfr F hg (by omega) S.B hz hf hcd.rec hv hb ho fun h' e tk' r F' => hE hb h' e tk' r F'
end
end Mine
end
section
open PySem PySem.W PyProof.Rows PySem.Calls
set_option maxRecDepth 100000
namespace Mine
def lawBody : List Stmt := fnBody 5
def lawScope : Scope := fnScope 5
def lawParams : Arguments := fnParams 5
def echoLam : Expr := match lawBody with | [_, _, _, _, _, .Assign _ v _, _, _] => v | _ => .Constant .none 0 default
def lamParams : Arguments := match echoLam with | .Lambda a _ _ _ => a | _ => default
def lamBody : Expr := match echoLam with | .Lambda _ b _ _ => b | _ => .Constant .none 0 default
def lamScope : Scope := match echoLam with | .Lambda _ _ s _ => s | _ => default
def lamPos : Pos := match echoLam with | .Lambda _ _ _ p => p | _ => default
abbrev lamQ : PySem.Str := PySem.Str.ofString "law.<locals>.<lambda>"
def lamFd (c : Addr) (pm : Value) : FuncData := kla_fn (PySem.Str.ofString "<lambda>") lamQ lamParams lamBody lamScope [] pm (.ref c) .none
def lamObj (c : Addr) (pm : Value) : Obj := { cls := .type "function", data := .func (lamFd c pm) }
abbrev lamEnv (L F c : Addr) (pm : Value) : Env := callEnv (lamFd c pm) L F
theorem lam_nocell : ∀ x ∈ lamScope.names, x.2 ≠ .cell := by decide
section
variable {w : World} {A : Around} {E : Value → Shared → Prop} {h : Heap} {g : Array GenState} {d : Drawn} {tk : Nat} {os : OsState} {mg mb : PySem.Str → Option Value} {L f c : Addr} {pm : Value} {m : PySem.Str → Option Value}
theorem list_plus {a b : Addr} {xs ys : Array Value} {na nb : Nat} {Q : Value → Shared → Prop} (ha : h.get? a = some (lstO xs na)) (hb : h.get? b = some (lstO ys nb)) (hsz : xs.size + ys.size ≤ 10000)
    (hq : Q (.ref h.objs.size) ⟨h.push (lstO (xs ++ ys) 0), g, d, tk, os⟩) : wpAny (model P w) A (binaryOp .Add (.ref a) (.ref b)) Q E ⟨h, g, d, tk, os⟩ := by
  refine concat_meets ⟨_, ha, rfl⟩ ⟨_, hb, rfl⟩ noFill_list_add seq_list_add PySem.F.slot_list_add PySem.F.entry_list_add (PySem.F.args_list_add_2 _ _) (list_addW a b xs ys na nb none none #[] #[] (Nat.le_trans hsz (by decide +kernel))) ⟨ha, hb, ?_⟩
  exact hq
def echoOut (A B : Array Value) (v0 v1 v2 v3 v4 : Value) (t : Tok) : Array Value := ((#[v0, v1, v2, v3, v4] ++ A) ++ #[.str (PySem.Str.ofString "|") t]) ++ B
theorem echo_call {F a b : Addr} {xs ys : Array Value} {na nb : Nat} {v0 v1 v2 v3 v4 n : Value} {Q : Value → Shared → Prop} (hroom : A.depth < recursionLimit) (B : Base mg mb h) (hf : h.get? F = some (lamObj c pm)) (hcd : h.CodeRec (.ref c) lamQ)
    (ha : h.get? a = some (lstO xs na)) (hb : h.get? b = some (lstO ys nb)) (hsz : xs.size ≤ 1000 ∧ ys.size ≤ 1000)
    (hq : ∀ h' R t tk', Grow h h' → h.get? R = none → h'.get? R = some (lstO (echoOut xs ys v0 v1 v2 v3 v4 t) 0) → Q (.ref R) ⟨h', g, d, tk', os⟩) :
    wpAny (model P w) A (call (.ref F) [.ref a, .ref b, v0, v1, v2, v3, n, v4]) Q E ⟨h, g, d, tk, os⟩ := by
  refine wpAny_call (kla_callFunE (fd := lamFd c pm) (body := lamBody) hroom hf rfl (by rfl) (by rfl) rfl hcd ?_)
  refine wpAny_of_eq (a := [(PySem.Str.ofString "a", .ref a), (PySem.Str.ofString "b", .ref b), (PySem.Str.ofString "one", v0), (PySem.Str.ofString "two", v1), (PySem.Str.ofString "early", v2), (PySem.Str.ofString "late", v3), (PySem.Str.ofString "n", n), (PySem.Str.ofString "end", v4)]) (by kernel_rfl) ?_
  refine wpAny_newFunctionEnv lam_nocell ?_ (fun h₁ hn hsb => ⟨B.lim.fresh _ hsb, ?_⟩) (by rfl)
  · intro x hx
    simp only [List.mem_cons, List.mem_nil_iff, or_false] at hx
    rcases hx with rfl | rfl | rfl | rfl | rfl | rfl | rfl | rfl <;> rfl
  have hk₁ : Grow h h₁ := fun b o e => hsb.extBut b o (Nat.ne_of_lt (Heap.lt_size e)) (Heap.get?_push_of_some _ e)
  show codeAny _ _ (.expr lamBody (lamEnv h.objs.size F c pm)) _ _
  refine kla_codeExpr ?_
  refine wpAny_BinOp ?_
  refine wpAny_BinOp ?_
  refine wpAny_BinOp ?_
  refine wpAny_List ?_
  refine spliced_more ?_
  refine wpAny_Name (wpAny_loadName_local rfl rfl hn rfl ?_)
  refine spliced_more ?_
  refine wpAny_Name (wpAny_loadName_local rfl rfl hn rfl ?_)
  refine spliced_more ?_
  refine wpAny_Name (wpAny_loadName_local rfl rfl hn rfl ?_)
  refine spliced_more ?_
  refine wpAny_Name (wpAny_loadName_local rfl rfl hn rfl ?_)
  refine spliced_more ?_
  refine wpAny_Name (wpAny_loadName_local rfl rfl hn rfl ?_)
  refine spliced_none ⟨by show 5 ≤ sizeLine; decide +kernel, ?_⟩
  refine wpAny_Name (wpAny_loadName_local rfl rfl (hn.push _) rfl ?_)
  have ha1 := hk₁ _ _ ha
  have hb1 := hk₁ _ _ hb
  refine list_plus (Heap.get?_push_size _ rfl) (Heap.get?_push_of_some _ ha1) (by simp; omega) ?_
  refine wpAny_List ?_
  refine spliced_more ?_
  refine wpAny_Constant_str ?_
  refine spliced_none ⟨by show 1 ≤ sizeLine; decide +kernel, ?_⟩
  refine list_plus (Heap.get?_push_of_some _ (Heap.get?_push_size _ rfl)) (Heap.get?_push_size _ rfl) (by simp; omega) ?_
  refine wpAny_Name (wpAny_loadName_local rfl rfl ((((hn.push _).push _).push _).push _) rfl ?_)
  refine list_plus (Heap.get?_push_size _ rfl) (Heap.get?_push_of_some _ (Heap.get?_push_of_some _ (Heap.get?_push_of_some _ (Heap.get?_push_of_some _ hb1)))) (by simp; omega) ?_
  refine hq _ _ _ _ (fun b o e => ?_) ?_ (Heap.get?_push_size _ rfl)
  · exact Heap.get?_push_of_some _ (Heap.get?_push_of_some _ (Heap.get?_push_of_some _ (Heap.get?_push_of_some _ (Heap.get?_push_of_some _ (hk₁ _ _ e)))))
  · refine Heap.get?_none_of_le ?_
    have : h.objs.size < h₁.objs.size := hn.lt
    simp only [Heap.size_push]
    omega
end
end Mine
end
section
open PySem PySem.W PyProof.Rows PySem.Calls
set_option maxRecDepth 100000
namespace Mine
/-- Y holds list iterators and frames only -/
def Odd (Y : Addr → Prop) (h : Heap) : Prop := ∀ a, Y a → ∃ o, h.get? a = some o ∧ (((o.cls = .type "list_iterator" ∨ o.cls = .none) ∧ ∃ vs, o.data = .fields vs) ∨ ∃ es n, o.data = .dict es n)
theorem Odd.not {Y : Addr → Prop} {h : Heap} (D : Odd Y h) {b : Addr} {o : Obj} (hb : h.get? b = some o) (hc : o.cls ≠ .type "list_iterator" ∧ o.cls ≠ .none) (hd : ∀ es n, o.data ≠ .dict es n) : ¬ Y b := fun q => by
  obtain ⟨o', ho', r⟩ := D b q
  rw [hb] at ho'
  cases ho'
  rcases r with ⟨r | r, _⟩ | ⟨es, n, r⟩
  · exact hc.1 r
  · exact hc.2 r
  · exact hd es n r
theorem Odd.fair {Y : Addr → Prop} {h : Heap} (D : Odd Y h) (hb : ∀ a, Y a → nB ≤ a) : Fair Y h := fun a ha => ⟨hb a ha, fun o vs ho hc hd => by
  refine D.not ho ?_ ?_ ha
  · rw [hc]; exact ⟨by decide, by decide⟩
  · intro es n q; rw [hd] at q; cases q⟩
theorem Odd.of {h : Heap} {W0 W1 l0 l1 L : Addr} {it0 it1 : Array Value} {i0 i1 : Nat} {m : PySem.Str → Option Value} (w0 : Well h W0 l0 it0 i0) (w1 : Well h W1 l1 it1 i1) (hn : h.Ns L m) :
    Odd (fun a => a = W0 ∨ a = W1 ∨ a = L) h := by
  intro a ha
  rcases ha with rfl | rfl | rfl
  · obtain ⟨o, ho, hc, hd⟩ := w0.it
    exact ⟨o, ho, .inl ⟨.inl hc, by rcases hd with hd | ⟨hd, _⟩ <;> exact ⟨_, hd⟩⟩⟩
  · obtain ⟨o, ho, hc, hd⟩ := w1.it
    exact ⟨o, ho, .inl ⟨.inl hc, by rcases hd with hd | ⟨hd, _⟩ <;> exact ⟨_, hd⟩⟩⟩
  · obtain ⟨o, es, n, ho, hd, _⟩ := hn
    exact ⟨o, ho, .inr ⟨es, n, hd⟩⟩
theorem Is.keepO {Y : Addr → Prop} {h h' : Heap} {v : Value} {x : Thing} (hv : Is h v x) (k : KeepS Y h h') (D : Odd Y h) : Is h' v x := by
  refine hv.keep k fun a ha q => ?_
  subst ha
  cases x with
  | list n => obtain ⟨t, z, e⟩ := hv; exact D.not e ⟨by simp, by simp⟩ (by simp) q
  | tuple n => obtain ⟨t, z, e⟩ := hv; exact D.not e ⟨by simp, by simp⟩ (by simp) q
  | bytes b => exact hv.elim
  | none => exact hv.elim
  | int n => exact hv.elim
  | str c => exact hv.elim
theorem Things.keepO {Y : Addr → Prop} {h h' : Heap} {items : Array Value} {xs : List Thing} (T : Things h items xs) (k : KeepS Y h h') (D : Odd Y h) : Things h' items xs :=
  ⟨T.len, fun j v x hv hx' => (T.is j v x hv hx').keepO k D, T.ok⟩
theorem IsList.keepO {Y : Addr → Prop} {h h' : Heap} {l : Addr} {items : Array Value} (T : h.IsList l items) (k : KeepS Y h h') (D : Odd Y h) : h'.IsList l items := by
  obtain ⟨o, ho, hc, n, hd⟩ := id T
  exact IsList.keepS T k (D.not ho (by rw [hc]; exact ⟨by decide, by decide⟩) (fun es n q => by rw [hd] at q; cases q))
theorem CodeOk.keepO {Y : Addr → Prop} {h h' : Heap} {c : Addr} {q : PySem.Str} (x : CodeOk h c q) (k : KeepS Y h h') (D : Odd Y h) : CodeOk h' c q := by
  obtain ⟨o, vs, t, a, e, b, dd⟩ := id x
  exact x.keep k (D.not a (by rw [e]; exact ⟨by decide, by decide⟩) (fun es n q => by rw [b] at q; cases q))
theorem Odd.get {Y : Addr → Prop} {h h' : Heap} {b : Addr} {o : Obj} (D : Odd Y h) (k : KeepS Y h h') (hb : h.get? b = some o) (hc : o.cls ≠ .type "list_iterator" ∧ o.cls ≠ .none) (hd : ∀ es n, o.data ≠ .dict es n) : h'.get? b = some o :=
  k.get (D.not hb hc hd) hb hd
theorem Well.keepO {Y : Addr → Prop} {h h' : Heap} {W l : Addr} {items : Array Value} {i : Nat} (w : Well h W l items i) (k : KeepS Y h h') (D : Odd Y h) (hW : ¬ Y W) : Well h' W l items i := by
  obtain ⟨o, ho, hc, n, hd⟩ := w.lst
  exact w.keep k hW (D.not ho (by rw [hc]; exact ⟨by decide, by decide⟩) (fun es n q => by rw [hd] at q; cases q))
def verdict (r0 r1 : Option Thing) (fs : List Thing) : Option Thing := match r0 with
  | some x => some x
  | none => match r1 with
    | some x => some x
    | none => fs.find? fun x => !x.isB
end Mine
end
section
open PySem PySem.W PyProof.Rows PySem.Calls
set_option maxRecDepth 100000
namespace Mine
def dbPre : List Stmt := dbBody.take 9
def S (x : String) : PySem.Str := PySem.Str.ofString x
def dbBinds (Fn W0 W1 : Addr) (v0 v1 v2 v3 nv v4 : Value) : List (PySem.Str × Value) :=
  [(PySem.Str.ofString "dfunc", .ref Fn), (PySem.Str.ofString "a", .ref W0), (PySem.Str.ofString "b", .ref W1), (PySem.Str.ofString "fromfile", v0), (PySem.Str.ofString "tofile", v1),
   (PySem.Str.ofString "fromfiledate", v2), (PySem.Str.ofString "tofiledate", v3), (PySem.Str.ofString "n", nv), (PySem.Str.ofString "lineterm", v4)]
def T17 (h h' : Heap) : Prop := ∃ ps0 ps, h.get? 17 = some { cls := .none, data := .fields ps0 } ∧ h'.get? 17 = some { cls := .none, data := .fields (ps0 ++ ps) }
/-- what the body of diff_bytes needs, and keeps -/
structure Gst (mg mb m : PySem.Str → Option Value) (L W0 W1 l0 l1 : Addr) (it0 it1 : Array Value) (i0 i1 : Nat) (xs0 xs1 : List Thing) (vs : List Value) (fs : List Thing) (Fn cl : Addr) (pl : Value) (ls : List Env) (h : Heap) : Prop where
  sys : Sys mg mb h
  ns : h.Ns L m
  hL : nB ≤ L
  n0 : nB ≤ W0
  n1 : nB ≤ W1
  ne : W0 ≠ W1
  w0 : Well h W0 l0 it0 i0
  w1 : Well h W1 l1 it1 i1
  i0 : i0 ≤ it0.size
  i1 : i1 ≤ it1.size
  t0 : Things h it0 xs0
  t1 : Things h it1 xs1
  m0 : it0.size ≤ 900
  m1 : it1.size ≤ 900
  len : vs.length = fs.length
  five : ∀ (k : Nat) (v : Value) (x : Thing), vs[k]? = some v → fs[k]? = some x → Is h v x
  ok5 : ∀ x ∈ fs, x.ok
  fn : h.get? Fn = some (lamObj cl pl)
  fc : CodeOk h cl lamQ
  fr : Frs h ls
abbrev Y3 (W0 W1 L : Addr) : Addr → Prop := fun a => a = W0 ∨ a = W1 ∨ a = L
section
variable {mg mb m m' : PySem.Str → Option Value} {L W0 W1 l0 l1 Fn cl : Addr} {it0 it1 : Array Value} {i0 i1 j0 j1 : Nat} {xs0 xs1 fs : List Thing} {vs : List Value} {pl : Value} {ls : List Env} {h h' : Heap}
theorem Gst.odd (G : Gst mg mb m L W0 W1 l0 l1 it0 it1 i0 i1 xs0 xs1 vs fs Fn cl pl ls h) : Odd (Y3 W0 W1 L) h := Odd.of G.w0 G.w1 G.ns
theorem Gst.fair (G : Gst mg mb m L W0 W1 l0 l1 it0 it1 i0 i1 xs0 xs1 vs fs Fn cl pl ls h) : Fair (Y3 W0 W1 L) h := G.odd.fair fun a ha => by
  rcases ha with rfl | rfl | rfl
  · exact G.n0
  · exact G.n1
  · exact G.hL
theorem Gst.nL0 (G : Gst mg mb m L W0 W1 l0 l1 it0 it1 i0 i1 xs0 xs1 vs fs Fn cl pl ls h) : ¬ W0 = L := fun q => by
  have := G.w0
  rw [q] at this
  exact this.ne_ns G.ns
theorem Gst.nL1 (G : Gst mg mb m L W0 W1 l0 l1 it0 it1 i0 i1 xs0 xs1 vs fs Fn cl pl ls h) : ¬ W1 = L := fun q => by
  have := G.w1
  rw [q] at this
  exact this.ne_ns G.ns
theorem Gst.step (G : Gst mg mb m L W0 W1 l0 l1 it0 it1 i0 i1 xs0 xs1 vs fs Fn cl pl ls h) (k : KeepS (Y3 W0 W1 L) h h') (hn : h'.Ns L m') (w0 : Well h' W0 l0 it0 j0) (w1 : Well h' W1 l1 it1 j1) (hj0 : j0 ≤ it0.size) (hj1 : j1 ≤ it1.size) (F : Frs h' ls) :
    Gst mg mb m' L W0 W1 l0 l1 it0 it1 j0 j1 xs0 xs1 vs fs Fn cl pl ls h' :=
  ⟨G.sys.keep k G.fair, hn, G.hL, G.n0, G.n1, G.ne, w0, w1, hj0, hj1, G.t0.keepO k G.odd, G.t1.keepO k G.odd, G.m0, G.m1, G.len, fun k' v x hv hx => (G.five k' v x hv hx).keepO k G.odd, G.ok5,
    G.odd.get k G.fn (by simp [lamObj]) (by simp [lamObj]), G.fc.keepO k G.odd, F⟩
theorem Gst.step17 (G : Gst mg mb m L W0 W1 l0 l1 it0 it1 i0 i1 xs0 xs1 vs fs Fn cl pl ls h) (k : KeepS (fun a => a = L ∨ a = 17) h h') (hs : Sys mg mb h') (hn : h'.Ns L m') (ht : ∃ ps, h.get? 17 = some { cls := .none, data := .fields ps }) (F : Frs h' ls) :
    Gst mg mb m' L W0 W1 l0 l1 it0 it1 i0 i1 xs0 xs1 vs fs Fn cl pl ls h' := by
  have D : Odd (fun a => a = L ∨ a = 17) h := by
    rintro a (rfl | rfl)
    · obtain ⟨o, es, n, ho, hd, _⟩ := G.ns
      exact ⟨o, ho, .inr ⟨es, n, hd⟩⟩
    · obtain ⟨ps, hp⟩ := ht
      exact ⟨_, hp, .inl ⟨.inr rfl, _, rfl⟩⟩
  have n0 : ¬ (W0 = L ∨ W0 = 17) := by
    rintro (q | q)
    · exact Well.ne_ns G.w0 (q ▸ G.ns)
    · have := G.n0; rw [q] at this; exact absurd this (by decide)
  have n1 : ¬ (W1 = L ∨ W1 = 17) := by
    rintro (q | q)
    · exact Well.ne_ns G.w1 (q ▸ G.ns)
    · have := G.n1; rw [q] at this; exact absurd this (by decide)
  exact ⟨hs, hn, G.hL, G.n0, G.n1, G.ne, G.w0.keepO k D n0, G.w1.keepO k D n1, G.i0, G.i1, G.t0.keepO k D, G.t1.keepO k D, G.m0, G.m1, G.len, fun k' v x hv hx => (G.five k' v x hv hx).keepO k D, G.ok5,
    D.get k G.fn (by simp [lamObj]) (by simp [lamObj]), G.fc.keepO k D, F⟩
end
section
variable {w : World} {A : Around} {E : Value → Shared → Prop} {h : Heap} {g : Array GenState} {d : Drawn} {tk : Nat} {os : OsState} {mg mb : PySem.Str → Option Value} {pm : Value}
  {L W0 W1 l0 l1 Fn cl : Addr} {it0 it1 : Array Value} {i0 i1 : Nat} {xs0 xs1 : List Thing} {pl : Value} {ls : List Env}
theorem Frs.keepN {X : Addr → Prop} {h h' : Heap} {ls : List Env} {L : Addr} {m : PySem.Str → Option Value} (F : Frs h ls) (k : KeepS X h h') (hn : h'.Ns L m) (hX : ∀ a, nB ≤ a → X a → a = L) : Frs h' ls := by
  intro env he
  obtain ⟨hk, L', o, es, n, hf', hb, ho, hd⟩ := F env he
  by_cases hLL : L' = L
  · subst hLL
    obtain ⟨o3, es3, n3, ho3, hd3, _⟩ := hn
    exact ⟨hk, L', o3, es3, n3, hf', hb, ho3, hd3⟩
  · obtain ⟨o', ho', hd', _⟩ := k.data (fun q => hLL (hX L' hb q)) ho
    exact ⟨hk, L', o', es, n, hf', hb, ho', hd'.trans hd⟩
theorem Odd.fresh {Y : Addr → Prop} {h : Heap} {e : Addr} (D : Odd Y h) (he : h.get? e = none) : ¬ Y e := fun q => by
  obtain ⟨o, ho, _⟩ := D e q
  rw [he] at ho; cases ho
theorem Odd.mono {X Y : Addr → Prop} {h : Heap} (D : Odd Y h) (hx : ∀ a, X a → Y a) : Odd X h := fun a ha => D a (hx a ha)
theorem RaisedX.mono {X Y : Addr → Prop} {h h' : Heap} {e : Addr} {msg : PySem.Str} (r : RaisedX X h h' e msg) (hx : ∀ a, X a → Y a) : RaisedX Y h h' e msg := by
  obtain ⟨hm, t, tn, c2, k, n, F, ht⟩ := r
  exact ⟨hm, t, tn, c2, k.mono hx, n, F, ht⟩
theorem RaisedX.fresh {X : Addr → Prop} {h h' : Heap} {e : Addr} {msg : PySem.Str} (r : RaisedX X h h' e msg) : h.get? e = none := by
  obtain ⟨hm, t, tn, c2, k, n, F, ht⟩ := r; exact n
theorem Raised.fresh {h h' : Heap} {e : Addr} {msg : PySem.Str} (r : Raised h h' e msg) : h.get? e = none := by
  obtain ⟨hm, t, tn, c2, k, n, F, ht⟩ := r; exact n
theorem dec_next {m : PySem.Str → Option Value} {vs : List Value} {fs : List Thing} {f c : Addr} {nm : PySem.Str} {p1 p2 p3 p4 p5 : Pos} {v : Value} {x : Thing} {Q : Flow → Shared → Prop} (k : Nat)
    (G : Gst mg mb m L W0 W1 l0 l1 it0 it1 i0 i1 xs0 xs1 vs fs Fn cl pl ls h)
    (hroom : A.depth + 3 < recursionLimit) (hA : A.handled = none) (hfr : A.frames = some ls) (hg : A.guards = some []) (hu : A.units + 70 < cLine)
    (hf : h.get? f = some (decObj c (pmOf mg))) (hco : CodeOk h c decQ) (hv : vs[k]? = some v) (hx : fs[k]? = some x) (hk : (dbEnv L pm).kindOf nm = some .local) (hdb : (nm == ("__debug__" : PySem.Str)) = false)
    (hdec : m (PySem.Str.ofString "decode") = some (.ref f)) (hnm : m nm = some v)
    (hq : ∀ b, x = .bytes b → ∀ h' t tk', KeepS (Y3 W0 W1 L) h h' → Gst mg mb (fun y => if y = nm then some (.str (decTxt b) t) else m y) L W0 W1 l0 l1 it0 it1 i0 i1 xs0 xs1 vs fs Fn cl pl ls h' → Q .next ⟨h', g, d, tk', os⟩)
    (hE : x.isB = false → ∀ h' e tk', RaisedX (Y3 W0 W1 L) h h' e (dueOf x) → Sys mg mb h' → Frs h' ls → Well h' W0 l0 it0 i0 → Well h' W1 l1 it1 i1 → E (.ref e) ⟨h', g, d, tk', os⟩) :
    wpAny (model P w) A (exec (.Assign [.Name nm p1] (.Call (.Name (PySem.Str.ofString "decode") p2) [.Name nm p3] [] p4) p5) (dbEnv L pm)) Q E ⟨h, g, d, tk, os⟩ := by
  have hok : x.ok := G.ok5 x (List.mem_of_getElem? hx)
  have nL0 := G.nL0
  have nL1 := G.nL1
  refine dec_stmt G.sys hroom hA hfr G.fr hg hu G.ns G.hL hk hdb hdec hnm hf hco (G.five k v x hv hx) hok (fun b hb h1 t tk1 k1 F1 hn1 => ?_) fun hb h1 e tk1 r F1 => ?_
  · have D : Odd (· = L) h := G.odd.mono fun _ q => .inr (.inr q)
    exact hq b hb h1 t tk1 (k1.mono fun _ q => .inr (.inr q)) (G.step (k1.mono fun _ q => .inr (.inr q)) hn1 (G.w0.keepO k1 D nL0) (G.w1.keepO k1 D nL1) G.i0 G.i1 F1)
  · have rx : RaisedX (Y3 W0 W1 L) h h1 e (dueOf x) := RaisedX.of (KeepS.refl _ _) (G.odd.fresh r.fresh) r
    have kn : KeepS Nil h h1 := (RaisedX.of (X := Nil) (KeepS.refl _ _) id r).keep
    exact hE hb h1 e tk1 rx (G.sys.keep kn Fair.nil) F1 (G.w0.keep kn id id) (G.w1.keep kn id id)
theorem body_pre {v0 v1 v2 v3 v4 nv : Value} {x0 x1 x2 x3 x4 : Thing} {Q : Flow → Shared → Prop}
    (G : Gst mg mb (fun x => (dbBinds Fn W0 W1 v0 v1 v2 v3 nv v4).reverse.lookup x) L W0 W1 l0 l1 it0 it1 i0 i1 xs0 xs1 [v0, v1, v2, v3, v4] [x0, x1, x2, x3, x4] Fn cl pl ls h)
    (hroom : A.depth + 3 < recursionLimit) (hA : A.handled = none) (hfr : A.frames = some ls) (hg : A.guards = some []) (hu : A.units + 70 < cLine)
    (hq : verdict (scan (xs0.drop i0)).2 (scan (xs1.drop i1)).2 [x0, x1, x2, x3, x4] = none → ∀ h1 h' m' R aa bb t b0 b1 b2 b3 b4 t0 t1 t2 t3 t4 tk',
      KeepS (fun a => a = L ∨ a = 17) h h1 → T17 h h1 → KeepS (Y3 W0 W1 L) h1 h' → Gst mg mb m' L W0 W1 l0 l1 it0 it1 it0.size it1.size xs0 xs1 [v0, v1, v2, v3, v4] [x0, x1, x2, x3, x4] Fn cl pl ls h' →
      m' (PySem.Str.ofString "lines") = some (.ref R) → h'.get? R = some (lstO (echoOut aa bb (.str (decTxt b0) t0) (.str (decTxt b1) t1) (.str (decTxt b2) t2) (.str (decTxt b3) t3) (.str (decTxt b4) t4) t) 0) →
      h.get? R = none → Texts aa (xs0.drop i0) → Texts bb (xs1.drop i1) → x0 = .bytes b0 → x1 = .bytes b1 → x2 = .bytes b2 → x3 = .bytes b3 → x4 = .bytes b4 → Q .next ⟨h', g, d, tk', os⟩)
    (hE : ∀ x, verdict (scan (xs0.drop i0)).2 (scan (xs1.drop i1)).2 [x0, x1, x2, x3, x4] = some x → ∀ h1 h' e tk' j1,
      KeepS (fun a => a = L ∨ a = 17) h h1 → T17 h h1 → Sys mg mb h1 → Fair (Y3 W0 W1 L) h1 → h.get? e = none → RaisedX (Y3 W0 W1 L) h1 h' e (dueOf x) → Sys mg mb h' → Frs h' ls → Well h' W0 l0 it0 (i0 + (scan (xs0.drop i0)).1) → Well h' W1 l1 it1 j1 →
      ((scan (xs0.drop i0)).2 = none → j1 = i1 + (scan (xs1.drop i1)).1) → ((scan (xs0.drop i0)).2 ≠ none → j1 = i1) → E (.ref e) ⟨h', g, d, tk', os⟩) :
    wpAny (model P w) A (execs dbPre (dbEnv L pm)) Q E ⟨h, g, d, tk, os⟩ := by
  refine wpAny_execs_cons ?_
  show wpAny _ _ (exec decDef (dbEnv L pm)) _ _ _
  refine def_decode G.sys G.ns G.hL fun f c h1 tk1 k1 hfn hf hc hco S1 t17 hn1 => ?_
  have F1 : Frs h1 ls := G.fr.keepN k1 hn1 (fun a ha q => q.elim id fun q => absurd (q ▸ ha) (by decide))
  have G1 := G.step17 k1 S1 hn1 (let ⟨ps, _, a, _⟩ := t17; ⟨ps, a⟩) F1
  have fresh1 : ∀ {e}, h1.get? e = none → h.get? e = none := fun {e} he => by
    refine k1.none ?_ he
    rintro (rfl | rfl)
    · obtain ⟨_, _, _, q, _⟩ := hn1; rw [he] at q; cases q
    · obtain ⟨_, _, _, q⟩ := t17; rw [he] at q; cases q
  have nL0 := G.nL0
  have nL1 := G.nL1
  show wpAny _ _ (execs _ _) _ _ _
  refine wpAny_execs_cons ?_
  refine map_stmt (nm := PySem.Str.ofString "a") (f := f) (c := c) (W := W0) (xs := xs0) S1 hroom hA hfr F1 hg hu hn1 G.hL (by rfl) (by decide) (by rfl) (by rfl) hf hco G.n0 G1.w0 G1.i0 G1.t0 (by have := G.m0; omega) (fun hs0 h2 Sa aa ca tk2 k2 w2 hSan hSa tx F2 hn2 => ?_) (fun n x hs h2 e tk2 w2 r F2 he => ?_)
  rotate_left
  · have D : Odd (· = W0) h1 := G1.odd.mono fun _ q => .inl q
    refine hE x (by rw [hs]; rfl) h1 h2 e tk2 i1 k1 t17 S1 G1.fair (fresh1 r.fresh) (r.mono fun _ q => .inl q) (S1.keep r.keep (G1.fair.mono fun _ q => .inl q)) F2 (by rw [hs]; exact w2) (G1.w1.keepO r.keep D (Ne.symm G.ne)) (fun q => by rw [hs] at q; cases q) (fun _ => rfl)
  have K2 : KeepS (Y3 W0 W1 L) h1 h2 := k2.mono fun a q => q.elim .inl fun q => .inr (.inr q)
  have D02 : Odd (fun a => a = W0 ∨ a = L) h1 := G1.odd.mono fun a q => q.elim .inl fun q => .inr (.inr q)
  have G2 := G1.step K2 hn2 w2 (G1.w1.keepO k2 D02 (fun q => q.elim (Ne.symm G.ne) nL1)) (Nat.le_refl _) G.i1 F2
  have hf2 := G1.odd.get K2 hf (by simp [decObj]) (by simp [decObj])
  have hco2 := hco.keepO K2 G1.odd
  show wpAny _ _ (execs _ _) _ _ _
  refine wpAny_execs_cons ?_
  refine map_stmt (nm := PySem.Str.ofString "b") (f := f) (c := c) (W := W1) (xs := xs1) G2.sys hroom hA hfr F2 hg hu hn2 G.hL (by rfl) (by decide) (by rfl) (by rfl) hf2 hco2 G.n1 G2.w1 G2.i1 G2.t1 (by have := G.m1; omega) (fun hs1 h3 Sb bb cb tk3 k3 w3 hSbn hSb ty F3 hn3 => ?_) (fun n x hs h3 e tk3 w3 r F3 he => ?_)
  rotate_left
  · have D : Odd (· = W1) h2 := G2.odd.mono fun _ q => .inr (.inl q)
    have rY := (r.mono (Y := Y3 W0 W1 L) fun _ q => .inr (.inl q)).pre K2 (G2.odd.fresh r.fresh)
    refine hE x (by rw [hs0, hs]; rfl) h1 h3 e tk3 _ k1 t17 S1 G1.fair (fresh1 rY.fresh) rY (G2.sys.keep r.keep (G2.fair.mono fun _ q => .inr (.inl q))) F3 ?_ w3 (fun _ => by rw [hs]) (fun q => absurd hs0 q)
    have e0 := (scan_none hs0).1
    have := G1.t0.len
    have hi := G.i0
    rw [e0, List.length_drop, show i0 + (xs0.length - i0) = it0.size by omega]
    exact G2.w0.keepO r.keep D G.ne
  have K3 : KeepS (Y3 W0 W1 L) h2 h3 := k3.mono fun a q => q.elim (fun q => .inr (.inl q)) fun q => .inr (.inr q)
  have D13 : Odd (fun a => a = W1 ∨ a = L) h2 := G2.odd.mono fun a q => q.elim (fun q => .inr (.inl q)) fun q => .inr (.inr q)
  have G3 := G2.step K3 hn3 (G2.w0.keepO k3 D13 (fun q => q.elim G.ne nL0)) w3 (Nat.le_refl _) (Nat.le_refl _) F3
  have hf3 := G2.odd.get K3 hf2 (by simp [decObj]) (by simp [decObj])
  have hco3 := hco2.keepO K3 G2.odd
  have hSa3 := G2.odd.get K3 hSa ⟨by simp, by simp⟩ (by simp)
  have hSb3 := hSb
  have KK3 := K2.trans K3
  have e0 : i0 + (scan (xs0.drop i0)).1 = it0.size := by
    have := G1.t0.len
    have hi := G.i0
    rw [(scan_none hs0).1, List.length_drop]; omega
  have e1 : i1 + (scan (xs1.drop i1)).1 = it1.size := by
    have := G1.t1.len
    have hi := G.i1
    rw [(scan_none hs1).1, List.length_drop]; omega
  show wpAny _ _ (execs _ _) _ _ _
  refine wpAny_execs_cons ?_
  refine dec_next (nm := PySem.Str.ofString "fromfile") (f := f) (c := c) 0 G3 hroom hA hfr hg hu hf3 hco3 rfl rfl (by rfl) (by decide) (by rfl) (by rfl) (fun b0 hb0 h4 t0 tk4 K4 G4 => ?_) fun hb h4 e tk4 r S4 F4 w0 w1 => ?_
  rotate_left
  · have rY := r.pre KK3 (G3.odd.fresh r.fresh)
    refine hE x0 ?_ h1 h4 e tk4 _ k1 t17 S1 G1.fair (fresh1 rY.fresh) rY S4 F4 (e0 ▸ w0) w1 (fun _ => e1.symm) (fun q => absurd hs0 q)
    simp [verdict, hs0, hs1, List.find?, hb]
  have hB0 : x0.isB = true := by rw [hb0]; rfl
  have hf4 := G3.odd.get K4 hf3 (by simp [decObj]) (by simp [decObj])
  have hco4 := hco3.keepO K4 G3.odd
  have hSa4 := G3.odd.get K4 hSa3 ⟨by simp, by simp⟩ (by simp)
  have hSb4 := G3.odd.get K4 hSb3 ⟨by simp, by simp⟩ (by simp)
  have KK4 := KK3.trans K4
  show wpAny _ _ (execs _ _) _ _ _
  refine wpAny_execs_cons ?_
  refine dec_next (nm := PySem.Str.ofString "tofile") (f := f) (c := c) 1 G4 hroom hA hfr hg hu hf4 hco4 rfl rfl (by rfl) (by decide) (by rfl) (by rfl) (fun b1 hb1 h5 t1 tk5 K5 G5 => ?_) fun hb h5 e tk5 r S5 F5 w0 w1 => ?_
  rotate_left
  · have rY := r.pre KK4 (G4.odd.fresh r.fresh)
    refine hE x1 ?_ h1 h5 e tk5 _ k1 t17 S1 G1.fair (fresh1 rY.fresh) rY S5 F5 (e0 ▸ w0) w1 (fun _ => e1.symm) (fun q => absurd hs0 q)
    simp [verdict, hs0, hs1, List.find?, hb, hB0]
  have hB1 : x1.isB = true := by rw [hb1]; rfl
  have hf5 := G4.odd.get K5 hf4 (by simp [decObj]) (by simp [decObj])
  have hco5 := hco4.keepO K5 G4.odd
  have hSa5 := G4.odd.get K5 hSa4 ⟨by simp, by simp⟩ (by simp)
  have hSb5 := G4.odd.get K5 hSb4 ⟨by simp, by simp⟩ (by simp)
  have KK5 := KK4.trans K5
  show wpAny _ _ (execs _ _) _ _ _
  refine wpAny_execs_cons ?_
  refine dec_next (nm := PySem.Str.ofString "fromfiledate") (f := f) (c := c) 2 G5 hroom hA hfr hg hu hf5 hco5 rfl rfl (by rfl) (by decide) (by rfl) (by rfl) (fun b2 hb2 h6 t2 tk6 K6 G6 => ?_) fun hb h6 e tk6 r S6 F6 w0 w1 => ?_
  rotate_left
  · have rY := r.pre KK5 (G5.odd.fresh r.fresh)
    refine hE x2 ?_ h1 h6 e tk6 _ k1 t17 S1 G1.fair (fresh1 rY.fresh) rY S6 F6 (e0 ▸ w0) w1 (fun _ => e1.symm) (fun q => absurd hs0 q)
    simp [verdict, hs0, hs1, List.find?, hb, hB0, hB1]
  have hB2 : x2.isB = true := by rw [hb2]; rfl
  have hf6 := G5.odd.get K6 hf5 (by simp [decObj]) (by simp [decObj])
  have hco6 := hco5.keepO K6 G5.odd
  have hSa6 := G5.odd.get K6 hSa5 ⟨by simp, by simp⟩ (by simp)
  have hSb6 := G5.odd.get K6 hSb5 ⟨by simp, by simp⟩ (by simp)
  have KK6 := KK5.trans K6
  show wpAny _ _ (execs _ _) _ _ _
  refine wpAny_execs_cons ?_
  refine dec_next (nm := PySem.Str.ofString "tofiledate") (f := f) (c := c) 3 G6 hroom hA hfr hg hu hf6 hco6 rfl rfl (by rfl) (by decide) (by rfl) (by rfl) (fun b3 hb3 h7 t3 tk7 K7 G7 => ?_) fun hb h7 e tk7 r S7 F7 w0 w1 => ?_
  rotate_left
  · have rY := r.pre KK6 (G6.odd.fresh r.fresh)
    refine hE x3 ?_ h1 h7 e tk7 _ k1 t17 S1 G1.fair (fresh1 rY.fresh) rY S7 F7 (e0 ▸ w0) w1 (fun _ => e1.symm) (fun q => absurd hs0 q)
    simp [verdict, hs0, hs1, List.find?, hb, hB0, hB1, hB2]
  have hB3 : x3.isB = true := by rw [hb3]; rfl
  have hf7 := G6.odd.get K7 hf6 (by simp [decObj]) (by simp [decObj])
  have hco7 := hco6.keepO K7 G6.odd
  have hSa7 := G6.odd.get K7 hSa6 ⟨by simp, by simp⟩ (by simp)
  have hSb7 := G6.odd.get K7 hSb6 ⟨by simp, by simp⟩ (by simp)
  have KK7 := KK6.trans K7
  show wpAny _ _ (execs _ _) _ _ _
  refine wpAny_execs_cons ?_
  refine dec_next (nm := PySem.Str.ofString "lineterm") (f := f) (c := c) 4 G7 hroom hA hfr hg hu hf7 hco7 rfl rfl (by rfl) (by decide) (by rfl) (by rfl) (fun b4 hb4 h8 t4 tk8 K8 G8 => ?_) fun hb h8 e tk8 r S8 F8 w0 w1 => ?_
  rotate_left
  · have rY := r.pre KK7 (G7.odd.fresh r.fresh)
    refine hE x4 ?_ h1 h8 e tk8 _ k1 t17 S1 G1.fair (fresh1 rY.fresh) rY S8 F8 (e0 ▸ w0) w1 (fun _ => e1.symm) (fun q => absurd hs0 q)
    simp [verdict, hs0, hs1, List.find?, hb, hB0, hB1, hB2, hB3]
  have hB4 : x4.isB = true := by rw [hb4]; rfl
  have hf8 := G7.odd.get K8 hf7 (by simp [decObj]) (by simp [decObj])
  have hco8 := hco7.keepO K8 G7.odd
  have hSa8 := G7.odd.get K8 hSa7 ⟨by simp, by simp⟩ (by simp)
  have hSb8 := G7.odd.get K8 hSb7 ⟨by simp, by simp⟩ (by simp)
  have KK8 := KK7.trans K8
  show wpAny _ _ (execs _ _) _ _ _
  refine wpAny_execs_cons ?_
  refine wpAny_Assign_Name ?_
  refine wpAny_Call_ofName ?_
  refine wpAny_Name (wpAny_loadName_local rfl rfl G8.ns (by rfl) ?_)
  refine callWith_def (fd := lamFd cl pl) (o := lamObj cl pl) rfl ?_
  refine spliced_cons ?_
  refine wpAny_Name (wpAny_loadName_local rfl rfl G8.ns (by rfl) ?_)
  refine spliced_cons ?_
  refine wpAny_Name (wpAny_loadName_local rfl rfl G8.ns (by rfl) ?_)
  refine spliced_cons ?_
  refine wpAny_Name (wpAny_loadName_local rfl rfl G8.ns (by rfl) ?_)
  refine spliced_cons ?_
  refine wpAny_Name (wpAny_loadName_local rfl rfl G8.ns (by rfl) ?_)
  refine spliced_cons ?_
  refine wpAny_Name (wpAny_loadName_local rfl rfl G8.ns (by rfl) ?_)
  refine spliced_cons ?_
  refine wpAny_Name (wpAny_loadName_local rfl rfl G8.ns (by rfl) ?_)
  refine spliced_cons ?_
  refine wpAny_Name (wpAny_loadName_local rfl rfl G8.ns (by rfl) ?_)
  refine spliced_cons ?_
  refine wpAny_Name (wpAny_loadName_local rfl rfl G8.ns (by rfl) ?_)
  refine spliced_nil ⟨G8.fn, ?_⟩
  refine echo_call (by omega) G8.sys.B G8.fn G8.fc.rec hSa8 hSb8 ⟨?_, ?_⟩ fun h9 R t tk9 k9 hRn hR => ?_
  · have := G.m0; have := G.t0.len; rw [tx.1, List.length_drop]; omega
  · have := G.m1; have := G.t1.len; rw [ty.1, List.length_drop]; omega
  have hn9 := G8.ns.keeps k9
  refine wpAny_storeName_local (by rfl) hn9 (fun h10 hn10 hs10 => ?_) (by rfl)
  have K9 : KeepS Nil h8 h9 := KeepS.of_grow k9
  have K10 : KeepS (· = L) h9 h10 := KeepS.of_sameBut hs10 rfl
  have K910 : KeepS (· = L) h8 h10 := (K9.mono fun _ q => q.elim).trans K10
  have D8 : Odd (· = L) h8 := G8.odd.mono fun _ q => .inr (.inr q)
  have hRL : R ≠ L := fun q => by
    obtain ⟨o, _, _, ho, _⟩ := G8.ns
    rw [q, ho] at hRn; cases hRn
  have F10 : Frs h10 ls := G8.fr.keepN K910 hn10 (fun a _ q => q)
  show wpAny _ _ (execs [] _) _ _ _
  refine wpAny_execs_nil ?_
  refine hq ?_ h1 h10 _ R aa bb t b0 b1 b2 b3 b4 t0 t1 t2 t3 t4 _ k1 t17 (KK8.trans (K910.mono fun _ q => .inr (.inr q))) (G8.step (K910.mono fun _ q => .inr (.inr q)) hn10 (G8.w0.keepO K910 D8 nL0) (G8.w1.keepO K910 D8 nL1) (Nat.le_refl _) (Nat.le_refl _) F10) (by rfl)
    (K10.get hRL hR (by simp)) (fresh1 (KK8.none (G8.odd.fresh hRn) hRn)) tx ty hb0 hb1 hb2 hb3 hb4
  simp [verdict, hs0, hs1, List.find?, hB0, hB1, hB2, hB3, hB4]
end
end Mine
end
section
open PySem PySem.W PyProof.Rows PySem.Calls
set_option maxRecDepth 100000
namespace Mine
theorem db_nocell : ∀ x ∈ dbScope.names, x.2 ≠ .cell := by decide
def genO (n : Nat) (t1 t2 : Tok) : Obj := { cls := .type "generator", data := .fields #[.int n 0, .str dbQ t1, .str dbQ t2] }
section
variable {w : World} {A : Around} {E : Value → Shared → Prop} {h : Heap} {g : Array GenState} {d : Drawn} {tk : Nat} {os : OsState} {mg mb : PySem.Str → Option Value} {pm : Value} {W0 W1 Fn : Addr}
theorem db_call {v0 v1 v2 v3 v4 nv : Value} {Q : Value → Shared → Prop} (hroom : A.depth < recursionLimit) (S : Sys mg mb h)
    (hq : ∀ h' pm L Rp t1 t2 tk', Grow h h' → h.get? L = none → h.get? Rp = none → h.objs.size ≤ L → L ≠ Rp → h'.Ns L (fun x => (dbBinds Fn W0 W1 v0 v1 v2 v3 nv v4).reverse.lookup x) → h'.get? Rp = some (genO g.size t1 t2) →
      Q (.ref Rp) ⟨h', g.push (.fresh (.func dbBody (dbEnv L pm))), d, tk', os⟩) :
    wpAny (model P w) A (call (.ref 22) [.ref Fn, .ref W0, .ref W1, v0, v1, v2, v3, nv, v4]) Q E ⟨h, g, d, tk, os⟩ := by
  obtain ⟨pm, hdb⟩ := S.db
  refine wpAny_call (codeAny_call_generator (fd := dbFd pm) (body := dbBody) hroom hdb rfl (by rfl) (by rfl) rfl S.dbc ?_)
  obtain ⟨t1, t2, t3, t4, t5, t6, h15⟩ := S.d15
  refine BindsTo.of_defaults (s := ⟨h, g, d, tk, os⟩) (fd := dbFd pm) (args := ⟨[.ref Fn, .ref W0, .ref W1, v0, v1, v2, v3, nv, v4], []⟩) (binds := dbBinds Fn W0 W1 v0 v1 v2 v3 nv v4) (T := 15) rfl h15 rfl (by rfl) (by kernel_rfl) _ _ _ _ ?_
  refine wpAny_newFunctionEnv db_nocell ?_ (fun h₁ hn hsb => ⟨S.B.lim.fresh _ hsb, ?_⟩) (by rfl)
  · intro x hx
    simp only [dbBinds, List.mem_cons, List.mem_nil_iff, or_false] at hx
    rcases hx with rfl | rfl | rfl | rfl | rfl | rfl | rfl | rfl | rfl <;> rfl
  have hk₁ : Grow h h₁ := fun b o e => hsb.extBut b o (Nat.ne_of_lt (Heap.lt_size e)) (Heap.get?_push_of_some _ e)
  have hz : h₁.objs.size = h.objs.size + 1 := by rw [hsb.1, Heap.size_push]
  refine hq _ pm h.objs.size _ _ _ _ (hk₁.trans (Grow.push _ _)) (Heap.get?_none_of_le (Nat.le_refl _)) (Heap.get?_none_of_le ?_) (Nat.le_refl _) ?_ (hn.push _) (Heap.get?_push_size _ rfl)
  · show h.objs.size ≤ h₁.objs.size; omega
  · show h.objs.size ≠ h₁.objs.size; omega
end
theorem sub_te_si' : isSubtype (.type "TypeError") (.type "StopIteration") = pure false := sub_te_si
section
variable {w : World} {A : Around} {E : Value → Shared → Prop} {s : Shared}
theorem gen_next {a : Addr} {gn n : Nat} {gs : GenState} {R : GenEnd} {Y : Protocol} {Q : Option Value → Shared → Prop} (hh : A.handled = none)
    (hl : s.heap.NoLimit) (hroom : A.depth < recursionLimit)
    (hg : s.heap.IsGen a gn) (hgs : s.gens[gn]? = some gs)
    (hgo : gs.Goes (model P w) A.in1 R Y n (.send .none) (s.setGen gn .running))
    (hY : ∀ v s₁ gs', gs'.bare = true → Y (n - 1) (s.setGen gn .running) v s₁ (fun r' s'' => match n with
        | 0 => False
        | m + 1 => gs'.Goes (model P w) A.in1 R Y m r' s'') → Q (some v) (s₁.setGen gn gs'))
    (hR : ∀ r s₁, R n (s.setGen gn .running) r s₁ → (r = .ok (.ret .none) ∧ ∀ h', Grow s₁.heap h' → Q none { s₁.setGen gn .finished with heap := h' }) ∨
      ∃ e o t1 t2, r = .error (.ref e) ∧ s₁.heap.get? e = some o ∧ o.cls = .type "TypeError" ∧ s₁.heap.get? a = some (genO gn t1 t2) ∧ E (.ref e) (s₁.setGen gn .finished)) :
    wpAny (model P w) A (pyNext (.ref a)) Q E s := by
  unfold pyNext
  refine wpAny_bind (wpAny_attempt (wpAny_callSpecial?_slot (name := PySem.Str.ofString "__next__") hg.typeIs slot_gen_next
    (wpAny_call_entry slot_gen_next hg.typeIs entry_gen_next ?_ (args_gen_next _))))
  show wpAny _ A.in1 (Builtin.Generator.genWake (.ref a) (.send .none)) _ _ s
  unfold Builtin.Generator.genWake
  refine wpAny_bind (wpAny_holding (wpAny_genNumber hg (wpAny_bind (wpAny_genState hgs ?_))))
  cases gs with
  | running => exact hgo.elim
  | finished => exact hgo.elim
  | _ =>
    refine wpAny_bind (wpAny_roomToWake hl hroom ?_)
    show wpAny _ A.in1 (.resume gn (.send .none) [] _) _ _ s
    refine wpAny_resumeQ hgs hgo (fun x s₁ hx => ?_) (fun v s₁ gs' hb hv => ?_)
    · rcases hR x s₁ hx with ⟨rfl, hp⟩ | ⟨e, o, t1, t2, rfl, he, hc, hga, hE⟩
      · show wpAny _ A.in1 (newExc (.type "StopIteration") [] >>= _) _ _ _
        refine wpAny_bind ?_
        simp only [newExc, newTuple]
        refine wpAny_bind (wpAny_newObj_type ?_ (by size_fits))
        refine wpAny_bind (m := firstArgMember _ _) (wpAny_of_eq (a := Value.none) (by first | rfl | (simp only [firstArgMember]; rfl)) ?_)
        refine wpAny_newObj_type ?_ (by size_fits)
        simp only [raiseNew]
        refine wpAny_bind (wpAny_bind (wpAny_handled ?_))
        first | rw [show A.in1.handled = none from hh] | rw [hh]
        refine wpAny_throw ?_
        refine wpAny_bind (wpAny_isInstance (T := "StopIteration") (b := true) ⟨_, Heap.get?_push_size _ rfl, rfl⟩ isSubtype_stop ?_)
        exact wpAny_pure (hp _ fun b o hb => Heap.get?_push_of_some _ (Heap.get?_push_of_some _ hb))
      · show wpAny _ A.in1 (Builtin.Generator.genLeft (.ref a) (.ref e)) _ _ _
        unfold Builtin.Generator.genLeft Builtin.Generator.madeByALambda
        have hT : (s₁.setGen gn .finished).TypeIs (.ref e) "TypeError" := ⟨o, he, hc⟩
        refine wpAny_bind (wpAny_bind (wpAny_load hga (wpAny_pure ?_)))
        refine wpAny_bind (wpAny_isInstance hT sub_te_si ?_)
        rw [if_neg (by simp)]
        show wpAny _ A.in1 (Builtin.Generator.genEscaped (.ref e)) _ _ _
        unfold Builtin.Generator.genEscaped
        refine wpAny_bind (wpAny_isInstance hT sub_te_si ?_)
        refine wpAny_throw ?_
        refine wpAny_bind (wpAny_isInstance hT sub_te_si ?_)
        exact wpAny_throw hE
    · exact wpAny_pure ⟨v, rfl, wpAny_pure (hY v s₁ gs' hb hv)⟩
theorem res_over {M : Model} {gn : Nat} {r : Resume} {l : List Value} {α : Type} {k : GenResult → Sem α} {Q : α → Shared → Prop} (hg : s.gens[gn]? = some .finished) (h : wpAny M A (k .finished) Q E s) : wpAny M A (.resume gn r l k) Q E s := by
  intro Γ p hΓ
  rw [Sem.wp_resume]
  refine ⟨.finished, s, by unfold Wakes; rw [hg]; exact ⟨rfl, rfl⟩, h Γ p hΓ⟩
/-- a generator that has ended: nothing comes any more -/
theorem gen_over {a : Addr} {gn : Nat} {Q : Value → Shared → Prop} (hh : A.handled = none) (hg : s.heap.IsGen a gn) (hgs : s.gens[gn]? = some .finished)
    (hQ : ∀ h' e, Grow s.heap h' → (∃ o, h'.get? e = some o ∧ o.cls = .type "StopIteration") → E (.ref e) { s with heap := h' }) : wpAny (model P w) A (call (.builtin "generator.__next__") [.ref a]) Q E s := by
  refine wpAny_call_entry slot_gen_next hg.typeIs entry_gen_next ?_ (args_gen_next _)
  show wpAny _ A.in1 (Builtin.Generator.genWake (.ref a) (.send .none)) _ _ s
  unfold Builtin.Generator.genWake
  refine wpAny_bind (wpAny_holding (wpAny_genNumber hg (wpAny_bind (wpAny_genState hgs ?_))))
  show wpAny _ A.in1 (.resume gn (.send .none) [] _) _ _ s
  refine res_over hgs ?_
  obtain ⟨hp, g, d, tk, os⟩ := s
  exact stop_iter hh fun h' e k he => hQ h' e k he
end
section
variable {prog : Program} {w : World} {A : Around} {R : GenEnd} {Y : Protocol} {n : Nat} {s₀ : Shared} {fs : List Frame} {s : Shared} {env : Env}
theorem seg_For {target iter : Expr} {body orelse : List Stmt} {pos : Pos} {c : Code} {K : Flow → Sem Fin} {H : Value → Sem Fin}
    (h : wpAny (model prog w) (A.over c fs) (eval iter env) (fun x s₁ => wpAny (model prog w) (A.over c fs) (pyIter x) (fun it s₂ =>
      ∀ p, Seg (model prog w) A R Y n s₀ (.forLoop target it body orelse env) ((model prog w).den (.forLoop target it body orelse env))
        (.ret (fun r => ((match r with | .ok f => (.pure f : Sem Flow) | .error e => .raise e).onRaise fun (x : Value) => do
          if (← field x 1) == Value.none then unsupported "frame.own-activation:exception-without-traceback"
          setFlight x env.frame).wrap K H id id) none false [] c p [] :: fs) s₂) (fun _ _ => False) s₁) (fun _ _ => False) s)
    (hs : ∀ x, foldedSetIterable iter env x = pure x := by intro _; rfl) :
    Seg (model prog w) A R Y n s₀ c ((exec (.For target iter body orelse pos) env).wrap K H id id) fs s := by
  rw [exec_For]
  refine seg_bind_wrap (wpAny_standAt ?_)
  refine seg_bind_wrap (wpAny_mono h (fun x s₁ h₁ => ?_) fun _ _ q => q.elim)
  refine seg_bind_wrap (wpAny_of_eq (hs x) ?_)
  refine seg_bind_wrap (wpAny_standAt ?_)
  refine seg_bind_wrap (wpAny_holding (wpAny_mono h₁ (fun it s₂ h₂ => ?_) fun _ _ q => q.elim))
  exact seg_call h₂
theorem seg_forLoop {target : Expr} {it : Value} {body : List Stmt}
    (h : wpAny (model prog w) (A.over (.forLoop target it body [] env) fs) (pyNext it) (fun r s' => match r with
        | none => Seg (model prog w) A R Y n s₀ (.block [] env) ((model prog w).den (.block [] env)) fs s'
        | some v => wpAny (model prog w) (A.over (.forLoop target it body [] env) fs) (letOwnedTupleGo target it v) (fun _ s₁ => wpAny (model prog w) (A.over (.forLoop target it body [] env) fs) (assign target env v) (fun _ s₂ =>
            Seg (model prog w) A R Y n s₀ (.forLoop target it body [] env) ((execs body env).wrap (fun f => match f with
              | .next | .cont => .pure (.again (.forLoop target it body [] env))
              | .brk => .pure (.done .next)
              | .ret v => .pure (.done (.ret v))) (fun e => (do noteFrame e env; theTreesLotGoes e : Sem Unit).wrap (fun _ => .raise e) .raise id id) id id) fs s₂) (fun _ _ => False) s₁) (fun _ _ => False) s') (fun _ _ => False) s) :
    Seg (model prog w) A R Y n s₀ (.forLoop target it body [] env) ((model prog w).den (.forLoop target it body [] env)) fs s := by
  show Seg _ A R Y n s₀ _ ((forTurn target it body [] env).onRaise (fun x => do noteFrame x env; theTreesLotGoes x)) fs s
  unfold forTurn
  rw [Sem.onRaise_eq_wrap]
  refine seg_bind_wrap (wpAny_standAt ?_)
  refine seg_bind_wrap (wpAny_onRaise (wpAny_mono h (fun r s₁ h₁ => ?_) fun _ _ q => q.elim))
  cases r with
  | none => exact seg_again rfl h₁
  | some v =>
    refine seg_bind_wrap (wpAny_mono h₁ (fun _ s₂ h₂ => ?_) fun _ _ q => q.elim)
    refine seg_bind_wrap (wpAny_mono h₂ (fun _ s₃ h₃ => ?_) fun _ _ q => q.elim)
    rw [Sem.bind_eq_wrap', Sem.wrap_wrap]
    rw [Sem.wrap_congr (execs body env) _ _ (K' := fun f => match f with
            | .next | .cont => .pure (.again (.forLoop target it body [] env))
            | .brk => .pure (.done .next)
            | .ret v => .pure (.done (.ret v))) (H' := (fun e => (do noteFrame e env; theTreesLotGoes e : Sem Unit).wrap (fun _ => .raise e) .raise id id))
        (fun f => by cases f <;> rfl)
        (fun e => by first | exact Sem.bind_eq_wrap _ _ | (show (do noteFrame e env; theTreesLotGoes e : Sem Unit).bind (fun _ => .raise e) = _; rw [Sem.bind_eq_wrap]))]
    exact h₃
end
end Mine
end
section
open PySem PySem.W PyProof.Rows PySem.Calls
set_option maxRecDepth 100000
namespace Mine
abbrev XX (W0 W1 L : Addr) : Addr → Prop := fun a => a = W0 ∨ a = W1 ∨ a = L ∨ a = 17
structure After (mg mb : PySem.Str → Option Value) (L W0 W1 l0 l1 : Addr) (it0 it1 : Array Value) (j0 j1 : Nat) (ls : List Env) (h h' : Heap) : Prop where
  k : KeepS (XX W0 W1 L) h h'
  t17 : T17 h h'
  sys : Sys mg mb h'
  w0 : Well h' W0 l0 it0 j0
  w1 : Well h' W1 l1 it1 j1
  fr : Frs h' ls
section
variable {mg mb m m' : PySem.Str → Option Value} {L W0 W1 l0 l1 Fn cl : Addr} {it0 it1 : Array Value} {i0 i1 j0 j1 : Nat} {xs0 xs1 fs : List Thing} {vs : List Value} {pl : Value} {ls : List Env} {h h' : Heap}
theorem Gst.nil (G : Gst mg mb m L W0 W1 l0 l1 it0 it1 i0 i1 xs0 xs1 vs fs Fn cl pl ls h) (k : KeepS Nil h h') : Gst mg mb m L W0 W1 l0 l1 it0 it1 i0 i1 xs0 xs1 vs fs Fn cl pl ls h' :=
  G.step (k.mono fun _ q => q.elim) (k.ns id G.ns) (G.w0.keep k id id) (G.w1.keep k id id) G.i0 G.i1 (G.fr.keep k fun _ _ _ _ => id)
theorem T17.pre {h h1 h' : Heap} (k : KeepS Nil h h1) (t : T17 h1 h') (hs : ∃ ps, h.get? 17 = some { cls := .none, data := .fields ps }) : T17 h h' := by
  obtain ⟨ps0, ps, a, b⟩ := t
  obtain ⟨ps', c⟩ := hs
  have := k.old id c (by decide)
  rw [this] at a
  cases a
  exact ⟨ps0, ps, c, b⟩
theorem T17.post {X : Addr → Prop} {h h1 h' : Heap} (t : T17 h h1) (k : KeepS X h1 h') (hx : ¬ X 17) : T17 h h' := by
  obtain ⟨ps0, ps, a, b⟩ := t
  exact ⟨ps0, ps, a, k.old hx b (by decide)⟩
theorem Sys.t17 {h : Heap} (S : Sys mg mb h) : ∃ ps, h.get? 17 = some { cls := .none, data := .fields ps } := by
  obtain ⟨ps, _, t, _⟩ := S.tab
  exact ⟨ps, t.2⟩
theorem Y3.n17 (G : Gst mg mb m L W0 W1 l0 l1 it0 it1 i0 i1 xs0 xs1 vs fs Fn cl pl ls h) : ¬ Y3 W0 W1 L 17 := by
  rintro (q | q | q)
  · have := G.n0; rw [← q] at this; exact absurd this (by decide)
  · have := G.n1; rw [← q] at this; exact absurd this (by decide)
  · have := G.hL; rw [← q] at this; exact absurd this (by decide)
end
section
variable {mg mb m m' : PySem.Str → Option Value} {L W0 W1 l0 l1 Fn cl : Addr} {it0 it1 : Array Value} {i0 i1 j0 j1 : Nat} {xs0 xs1 fs : List Thing} {vs : List Value} {pl : Value} {ls : List Env} {h h' : Heap}
theorem Gst.oddX (G : Gst mg mb m L W0 W1 l0 l1 it0 it1 i0 i1 xs0 xs1 vs fs Fn cl pl ls h) : Odd (XX W0 W1 L) h := by
  rintro a (q | q | q | rfl)
  · exact G.odd a (.inl q)
  · exact G.odd a (.inr (.inl q))
  · exact G.odd a (.inr (.inr q))
  · obtain ⟨ps, hp⟩ := G.sys.t17
    exact ⟨_, hp, .inl ⟨.inr rfl, _, rfl⟩⟩
end
/-- raised, and the base stood at the raise -/
def RaisedS (mg mb : PySem.Str → Option Value) (X : Addr → Prop) (h₀ h : Heap) (e : Addr) (msg : PySem.Str) : Prop :=
  ∃ hm t tn c2, KeepS X h₀ hm ∧ h₀.get? e = none ∧ Flt hm h e (.type "TypeError") (some (.ref t), c2) .none ∧ hm.get? t = some { cls := .type "tuple", data := .seq #[.str msg tn] } ∧ Sys mg mb hm ∧ T17 h₀ hm
def dbFor : List Stmt := dbBody.drop 9
theorem dbBody_split : dbBody = dbPre ++ dbFor := by kernel_rfl
section
variable {w : World} {A : Around} {E : Value → Shared → Prop} {h : Heap} {g : Array GenState} {d : Drawn} {tk : Nat} {os : OsState} {mg mb : PySem.Str → Option Value} {pm : Value}
  {L W0 W1 l0 l1 Fn cl Rp : Addr} {it0 it1 : Array Value} {i0 i1 gn : Nat} {xs0 xs1 : List Thing} {pl : Value} {ls : List Env} {t1 t2 : Tok}
theorem gen_no_len : typeLookup (.type "generator") "__len__" = pure none := by rw [typeLookup_type, builtinLookup_eq_fast]; kernel_rfl
theorem gen_no_hint : typeLookup (.type "generator") "__length_hint__" = pure none := by rw [typeLookup_type, builtinLookup_eq_fast]; kernel_rfl
theorem isGen_of {h : Heap} {a : Addr} {n : Nat} (ha : h.get? a = some (genO n t1 t2)) : h.IsGen a n := ⟨_, _, _, ha, rfl, rfl, rfl⟩
theorem over_depth {A : Around} {b : List Stmt} {env : Env} : (A.over (.func b env) []).depth = A.depth + 1 := rfl
theorem over_units {A : Around} {b : List Stmt} {env : Env} : (A.over (.func b env) []).units = A.units + 3 := rfl
theorem over_frames {A : Around} {b : List Stmt} {env : Env} {ls : List Env} (h : A.frames = some ls) : (A.over (.func b env) []).frames = some (env :: ls) := by
  show pushEnvs [env] (pushEnvs [] A.frames) = _
  rw [h]; rfl
theorem over_guards {A : Around} {b : List Stmt} {env : Env} : (A.over (.func b env) []).guards = A.guards := rfl
theorem over_handled {A : Around} {b : List Stmt} {env : Env} : (A.over (.func b env) []).handled = A.handled := rfl
theorem execs_db (env : Env) : execs dbBody env = execs (dbPre ++ dbFor) env := congrArg (fun b => execs b env) dbBody_split
theorem leave_keep {h₀ : Heap} {e : Addr} {cls : Value} {a0 : Option Value × Option Value} {env : Env} {Q : Unit → Shared → Prop} {M : Model} (hfr : A.frames = some (env :: ls)) (F : Frs h (env :: ls)) (hf : env.frame = some L) (X : Flt h₀ h e cls a0 .none)
    (hq : ∀ h', Flt h₀ h' e cls a0 .none → Frs h' (env :: ls) → KeepS (fun a => a = e ∨ ∃ o ts x, h.get? a = some o ∧ o.data = .fields ts ∧ ts[3]? = some x) h h' → Q () ⟨h', g, d, tk, os⟩) : wpAny M A (leaving env (.ref e)) Q E ⟨h, g, d, tk, os⟩ := by
  obtain ⟨k, n, o, vs, he, hc, hd, h0, hh⟩ := X
  rcases hh with ⟨h1, q⟩ | ⟨T, oT, ts, h1, hnT, hTe, hT, hdT, h3⟩
  · refine leave_exc (h₀ := h.update e fun o => { o with data := .freed }) hfr F hf ⟨cut_keep, freed_none he, o, vs, he, hc, hd, h0, .inl ⟨h1, q⟩⟩ fun h' X' F' => ?_
    have kk : KeepS (· = e) h h' := fun b ob hb hob => X'.keep b ob id ((Heap.get?_update_other _ _ (Ne.symm hb)).trans hob)
    refine hq h' ⟨k.drop kk fun b hb _ => hb ▸ n, n, ?_⟩ F' (kk.mono fun _ q => .inl q)
    obtain ⟨o', vs', he', hc', hd', h0', hh'⟩ := X'.obj
    refine ⟨o', vs', he', hc', hd', h0', ?_⟩
    rcases hh' with hh' | ⟨T', oT', ts', h1', hnT', hTe', hT', hdT', h3'⟩
    · exact .inl hh'
    · refine .inr ⟨T', oT', ts', h1', ?_, hTe', hT', hdT', h3'⟩
      cases hz : h₀.get? T' with
      | none => rfl
      | some oz =>
        obtain ⟨o2, ho2, _⟩ := k.data id hz
        rw [Heap.get?_update_other _ _ (Ne.symm hTe'), ho2] at hnT'; cases hnT'
  · have heT : (h.update T fun o => { o with data := .freed }).get? e = some o := (Heap.get?_update_other _ _ hTe).trans he
    refine leave_exc (h₀ := (h.update T fun o => { o with data := .freed }).update e fun o => { o with data := .freed }) hfr F hf ⟨cut_keep.trans cut_keep, freed_none heT, o, vs, he, hc, hd, h0,
      .inr ⟨T, oT, ts, h1, (Heap.get?_update_other _ _ (Ne.symm hTe)).trans (freed_none hT), hTe, hT, hdT, h3⟩⟩ fun h' X' F' => ?_
    have kk : KeepS (fun b => b = e ∨ b = T) h h' := fun b ob hb hob => X'.keep b ob id
      ((Heap.get?_update_other _ _ (fun q => hb (.inl q.symm))).trans ((Heap.get?_update_other _ _ (fun q => hb (.inr q.symm))).trans hob))
    refine hq h' ⟨k.drop kk fun b hb _ => by rcases hb with rfl | rfl <;> assumption, n, ?_⟩ F' (kk.mono fun a q => by
      rcases q with rfl | rfl
      · exact .inl rfl
      · exact .inr ⟨oT, ts, _, hT, hdT, h3⟩)
    obtain ⟨o', vs', he', hc', hd', h0', hh'⟩ := X'.obj
    refine ⟨o', vs', he', hc', hd', h0', ?_⟩
    rcases hh' with hh' | ⟨T', oT', ts', h1', hnT', hTe', hT', hdT', h3'⟩
    · exact .inl hh'
    · refine .inr ⟨T', oT', ts', h1', ?_, hTe', hT', hdT', h3'⟩
      cases hz : h₀.get? T' with
      | none => rfl
      | some oz =>
        obtain ⟨o2, ho2, _⟩ := k.data id hz
        by_cases hq : T' = T
        · rw [hq, hnT] at hz; cases hz
        · rw [Heap.get?_update_other _ _ (Ne.symm hTe'), Heap.get?_update_other _ _ (Ne.symm hq), ho2] at hnT'; cases hnT'
theorem Well.small {X : Addr → Prop} {h h' : Heap} {W l : Addr} {items : Array Value} {i : Nat} (ww : Well h W l items i) (k : KeepS X h h') (hx : ∀ a, X a → ∃ o ts, h.get? a = some o ∧ o.data = .fields ts ∧ (o.cls = .type "TypeError" ∨ ∃ x, ts[3]? = some x)) : Well h' W l items i := by
  obtain ⟨o, ho, hc, hd⟩ := ww.it
  obtain ⟨ol, hol, hcl, nl, hdl⟩ := ww.lst
  refine ww.keep k (fun q => ?_) fun q => ?_
  · obtain ⟨o', ts, ho', hd', hs⟩ := hx _ q
    rw [ho] at ho'
    cases ho'
    rcases hs with hs | ⟨x, hs⟩
    · rw [hc] at hs; exact absurd hs (by decide)
    · rcases hd with hd | ⟨hd, _⟩ <;> (rw [hd'] at hd; cases hd; simp at hs)
  · obtain ⟨o', ts, ho', hd', hs⟩ := hx _ q
    rw [hol] at ho'
    cases ho'
    rw [hdl] at hd'; cases hd'
theorem RaisedX.leave {X : Addr → Prop} {h' : Heap} {e : Addr} {msg : PySem.Str} {env : Env} {Q : Unit → Shared → Prop} {M : Model} (r : RaisedX X h h' e msg) (hfr : A.frames = some (env :: ls)) (F : Frs h' (env :: ls)) (hf : env.frame = some L)
    (hq : ∀ h2, RaisedX X h h2 e msg → Frs h2 (env :: ls) → (∀ W l it i, Well h' W l it i → Well h2 W l it i) → Q () ⟨h2, g, d, tk, os⟩) : wpAny M A (leaving env (.ref e)) Q E ⟨h', g, d, tk, os⟩ := by
  obtain ⟨hm, t, tn, c2', kk, nn, X', ht⟩ := r
  refine leave_keep hfr F hf X' fun h2 X2 F2 k2 => hq h2 ⟨hm, t, tn, c2', kk, nn, X2, ht⟩ F2 fun W l it i ww => ?_
  refine ww.small k2 fun a ha => ?_
  rcases ha with rfl | ⟨o, ts, x, ho, hd, hx⟩
  · obtain ⟨o, vs, he, hc, hd, _⟩ := X'.obj
    exact ⟨o, vs, he, hd, .inl hc⟩
  · exact ⟨o, ts, ho, hd, .inr ⟨x, hx⟩⟩
theorem report_bad {v0 v1 v2 v3 v4 nv : Value} {x0 x1 x2 x3 x4 x : Thing} {Q : Value → Shared → Prop}
    (G : Gst mg mb (fun x => (dbBinds Fn W0 W1 v0 v1 v2 v3 nv v4).reverse.lookup x) L W0 W1 l0 l1 it0 it1 i0 i1 xs0 xs1 [v0, v1, v2, v3, v4] [x0, x1, x2, x3, x4] Fn cl pl (dbEnv L pm :: ls) h)
    (hv : verdict (scan (xs0.drop i0)).2 (scan (xs1.drop i1)).2 [x0, x1, x2, x3, x4] = some x)
    (hroom : A.depth + 5 < recursionLimit) (hA : A.handled = none) (hfr : A.frames = some ls) (hg : A.guards = some []) (hu : A.units + 90 < cLine)
    (hRp : h.get? Rp = some (genO gn t1 t2)) (hgs : g[gn]? = some (.fresh (.func dbBody (dbEnv L pm))))
    (hE : ∀ h' e tk' j1, After mg mb L W0 W1 l0 l1 it0 it1 (i0 + (scan (xs0.drop i0)).1) j1 ls h h' → RaisedS mg mb (XX W0 W1 L) h h' e (dueOf x) → ((scan (xs0.drop i0)).2 = none → j1 = i1 + (scan (xs1.drop i1)).1) → ((scan (xs0.drop i0)).2 ≠ none → j1 = i1) →
      E (.ref e) ⟨h', g.setIfInBounds gn .finished, d, tk', os⟩) :
    wpAny (model P w) A (call (.type "list") [.ref Rp]) Q E ⟨h, g, d, tk, os⟩ := by
  have hSn : h.get? h.objs.size = none := Heap.get?_none_of_le (Nat.le_refl _)
  refine list_call (T := "generator") hRp rfl ⟨by decide, by decide, gen_no_len, gen_no_hint⟩ (fun A s Q E hI q => wpAny_pyIter_gen (isGen_of hI) q) fun h1 c1 s1 hS1 => ?_
  have k1 : KeepS Nil h h1 := (KeepS.of_grow (Grow.push h (lstO #[] 0)) : KeepS Nil h _).drop (KeepS.of_sameBut (X := (· = h.objs.size)) s1 rfl) fun b hb _ => hb ▸ hSn
  generalize hS : h.objs.size = S at *
  have G1 := G.nil k1
  have hRp1 := k1.get id hRp (fun _ _ q => by cases q)
  refine ext_loop (J := fun n acc s => s = ⟨h1, g, d, tk, os⟩) ?_ 0 #[] _ c1 rfl hS1
  rintro n acc s cc rfl hS'
  let R : GenEnd := fun _ _ r s₁ => ∃ h' e tk' j1, r = .error (.ref e) ∧ s₁ = ⟨h', g.setIfInBounds gn .running, d, tk', os⟩ ∧ After mg mb L W0 W1 l0 l1 it0 it1 (i0 + (scan (xs0.drop i0)).1) j1 ls h h' ∧ RaisedS mg mb (XX W0 W1 L) h h' e (dueOf x) ∧ ((scan (xs0.drop i0)).2 = none → j1 = i1 + (scan (xs1.drop i1)).1) ∧ ((scan (xs0.drop i0)).2 ≠ none → j1 = i1)
  refine gen_next (n := 0) (R := R) (Y := fun _ _ _ _ _ => False) hA G1.sys.B.lim (by show A.depth < _; omega) (isGen_of hRp1) hgs ⟨rfl, ?_⟩ (fun v s₁ gs' hb hf => hf.elim) ?_
  · refine seg_func ?_
    rw [execs_db, execs_app_wrap]
    refine seg_wrap (body_pre G1 (by rw [over_depth]; show A.depth + 1 + 3 < _; omega) hA (over_frames hfr) hg (by rw [over_units]; show A.units + 1 + 1 + 1 + 3 + 70 < _; omega) (fun hnone => by rw [hv] at hnone; cases hnone) fun x' hx' h2 h3 e tk3 j1 k2 t17 S2 hfair hen rx S3 F3 w0 w1 hj hj' => ?_)
    rw [hv] at hx'
    cases hx'
    refine seg_wrap (rx.leave (over_frames hfr) F3 rfl fun h4 rx4 F4 ww => ?_)
    refine seg_end (.error (.ref e)) ⟨h4, e, tk3, j1, rfl, rfl, ?_, ?_, hj, hj'⟩
    · have kA : KeepS (XX W0 W1 L) h h2 := (k1.mono fun _ q => q.elim).trans (k2.mono fun a q => q.elim (fun q => .inr (.inr (.inl q))) fun q => .inr (.inr (.inr q)))
      have kB : KeepS (XX W0 W1 L) h2 h4 := rx4.keep.mono fun a q => q.elim .inl fun q => .inr (q.elim .inl fun q => .inr (.inl q))
      exact ⟨kA.trans kB, (t17.pre k1 G.sys.t17).post rx4.keep (Y3.n17 G), S2.keep rx4.keep hfair, ww _ _ _ _ w0, ww _ _ _ _ w1, fun env he => F4 env (List.mem_cons_of_mem _ he)⟩
    · have kA : KeepS (XX W0 W1 L) h h2 := (k1.mono fun _ q => q.elim).trans (k2.mono fun a q => q.elim (fun q => .inr (.inr (.inl q))) fun q => .inr (.inr (.inr q)))
      obtain ⟨hm, t, tn, c2, km, nn, X', ht⟩ := rx4
      exact ⟨hm, t, tn, c2, kA.trans (km.mono fun a q => q.elim .inl fun q => .inr (q.elim .inl fun q => .inr (.inl q))), k1.none id hen, X', ht, S2.keep km hfair, (t17.pre k1 G.sys.t17).post km (Y3.n17 G)⟩
  · rintro r s₁ ⟨h', e, tk', j1, rfl, rfl, Af, rx, c1, c2⟩
    have hrx := rx
    obtain ⟨hm, t, tn, c2', kk, nn, X, ht, _⟩ := rx
    obtain ⟨_, _, o, vs, he, hc, _⟩ := X
    refine .inr ⟨e, o, t1, t2, rfl, he, hc, ?_, ?_⟩
    · exact Af.k.get ((Gst.oddX G).not hRp ⟨by simp [genO], by simp [genO]⟩ (by simp [genO])) hRp (fun _ _ q => by cases q)
    · have := hE h' e tk' j1 Af hrx c1 c2
      show E (.ref e) ⟨h', (g.setIfInBounds gn .running).setIfInBounds gn .finished, d, tk', os⟩
      rw [Array.setIfInBounds_setIfInBounds]
      exact this
end
end Mine
end
section
open PySem PySem.W PyProof.Rows PySem.Calls
set_option maxRecDepth 100000
namespace Mine
theorem Texts.append {a b : Array Value} {xs ys : List Thing} (x : Texts a xs) (y : Texts b ys) : Texts (a ++ b) (xs ++ ys) := by
  refine ⟨by simp [x.1, y.1], fun j z hz => ?_⟩
  rw [List.getElem?_append] at hz
  rw [Array.getElem?_append, x.1]
  split at hz <;> rename_i hj
  · rw [if_pos hj]; exact x.2 j z hz
  · rw [if_neg hj]; exact y.2 _ z hz
theorem Texts.one {b : Array UInt8} {t : Tok} : Texts #[.str (decTxt b) t] [.bytes b] := by
  refine ⟨rfl, fun j z hz => ?_⟩
  cases j with
  | zero => cases hz; exact ⟨b, t, rfl, rfl⟩
  | succ j => simp at hz
theorem bar_txt : PySem.Str.ofString "|" = decTxt #[124] := by decide +kernel
def OutB (acc : Array Value) (ys : List Thing) : Prop := acc.size = ys.length ∧ ∀ (j : Nat) (y : Thing), ys[j]? = some y → ∃ b t, y = .bytes b ∧ acc[j]? = some (.bytes b t)
theorem OutB.push {acc : Array Value} {ys : List Thing} {b : Array UInt8} {t : Tok} (h : OutB acc ys) : OutB (acc.push (.bytes b t)) (ys ++ [.bytes b]) := by
  refine ⟨by simp [h.1], fun j y hy => ?_⟩
  rw [List.getElem?_append] at hy
  split at hy
  · obtain ⟨b', t', e, ha⟩ := h.2 j y hy
    refine ⟨b', t', e, ?_⟩
    have hj : j < acc.size := (Array.getElem?_eq_some_iff.mp ha).1
    rw [Array.getElem?_push, if_neg (by omega)]; exact ha
  · have : j - ys.length = 0 := by
      rcases Nat.eq_zero_or_pos (j - ys.length) with q | q
      · exact q
      · rw [List.getElem?_eq_none (by simp; omega)] at hy; cases hy
    rw [this] at hy
    cases hy
    exact ⟨b, t, rfl, by rw [Array.getElem?_push, if_pos (by rw [h.1]; omega)]⟩
def outsOf (fs as bs : List Thing) : List Thing := ((fs ++ as) ++ [.bytes #[124]]) ++ bs
theorem echo_texts {aa bb : Array Value} {as bs : List Thing} {b0 b1 b2 b3 b4 : Array UInt8} {t0 t1 t2 t3 t4 t : Tok} (ha : Texts aa as) (hb : Texts bb bs) :
    Texts (echoOut aa bb (.str (decTxt b0) t0) (.str (decTxt b1) t1) (.str (decTxt b2) t2) (.str (decTxt b3) t3) (.str (decTxt b4) t4) t) (outsOf [.bytes b0, .bytes b1, .bytes b2, .bytes b3, .bytes b4] as bs) := by
  unfold echoOut outsOf
  refine Texts.append (Texts.append (Texts.append ?_ ha) ?_) hb
  · exact (((Texts.one (b := b0) (t := t0)).append (Texts.one (b := b1) (t := t1))).append ((Texts.one (b := b2) (t := t2)).append (Texts.one (b := b3) (t := t3)))).append (Texts.one (b := b4) (t := t4))
  · rw [bar_txt]; exact Texts.one
section
variable {w : World} {A : Around} {E : Value → Shared → Prop} {h : Heap} {g : Array GenState} {d : Drawn} {tk : Nat} {os : OsState} {W l : Addr} {items : Array Value} {i : Nat}
theorem well_next {x : Value} {Q : Option Value → Shared → Prop} (ww : Well h W l items i) (hx : items[i]? = some x) (hq : ∀ h', Well h' W l items (i + 1) → Heap.SameBut W h h' → Q (some x) ⟨h', g, d, tk, os⟩) : wpAny (model P w) A (pyNext (.ref W)) Q E ⟨h, g, d, tk, os⟩ := by
  unfold pyNext
  refine wpAny_bind (wpAny_attempt (wpAny_callSpecial?_slot (name := PySem.Str.ofString "__next__") ww.type slot_listiter_next (well_item ww hx fun h1 w1 s1 => ?_)))
  exact wpAny_pure (hq h1 w1 s1)
theorem well_over {Q : Option Value → Shared → Prop} (hh : A.handled = none) (ww : Well h W l items i) (hx : items[i]? = none) (hq : ∀ h', Well h' W l items i → Heap.ExtBut W h h' → Q none ⟨h', g, d, tk, os⟩) : wpAny (model P w) A (pyNext (.ref W)) Q E ⟨h, g, d, tk, os⟩ := by
  unfold pyNext
  refine wpAny_bind (wpAny_attempt (wpAny_callSpecial?_slot (name := PySem.Str.ofString "__next__") ww.type slot_listiter_next (well_end hh ww hx fun h1 e w1 s1 he => ?_)))
  obtain ⟨o, ho, hc⟩ := he
  refine wpAny_bind (wpAny_isInstance (tyRef ho hc) sub_si_si ?_)
  exact wpAny_pure (hq h1 w1 s1)
end
end Mine
end
section
open PySem PySem.W PyProof.Rows PySem.Calls
set_option maxRecDepth 100000
namespace Mine
def forBody : List Stmt := match dbFor with | [.For _ _ b _ _] => b | _ => []
def forTgt : Expr := match dbFor with | [.For t _ _ _ _] => t | _ => .Constant .none 0 default
def forIter : Expr := match dbFor with | [.For _ i _ _ _] => i | _ => .Constant .none 0 default
def forPos : Pos := match dbFor with | [.For _ _ _ _ p] => p | _ => default
theorem dbFor_eq : dbFor = [.For forTgt forIter forBody [] forPos] := by kernel_rfl
/-- the state at the top of the loop -/
structure Lst (mg mb : PySem.Str → Option Value) (L W0 W1 l0 l1 : Addr) (it0 it1 : Array Value) (ls : List Env) (h : Heap) (S R I : Addr) (items : Array Value) (j : Nat) (h' : Heap) : Prop where
  af : After mg mb L W0 W1 l0 l1 it0 it1 it0.size it1.size ls h h'
  ns : ∃ m, h'.Ns L m
  it : Well h' I R items j
  freshI : h.get? I = none
  freshR : h.get? R = none
  IS : I ≠ S
  RS : R ≠ S
  hI : nB ≤ I
theorem Frs.keepN' {X : Addr → Prop} {h h' : Heap} {ls : List Env} {L : Addr} {m : PySem.Str → Option Value} (F : Frs h ls) (k : KeepS X h h') (hn : h'.Ns L m) (hX : ∀ env ∈ ls, ∀ a, env.frame = some a → X a → a = L) : Frs h' ls := by
  intro env he
  obtain ⟨hk, L', o, es, n, hf', hb, ho, hd⟩ := F env he
  by_cases hLL : L' = L
  · subst hLL
    obtain ⟨o3, es3, n3, ho3, hd3, _⟩ := hn
    exact ⟨hk, L', o3, es3, n3, hf', hb, ho3, hd3⟩
  · obtain ⟨o', ho', hd', _⟩ := k.data (fun q => hLL (hX env he L' hf' q)) ho
    exact ⟨hk, L', o', es, n, hf', hb, ho', hd'.trans hd⟩
section
variable {mg mb : PySem.Str → Option Value} {L W0 W1 l0 l1 S R I : Addr} {it0 it1 items : Array Value} {j j' j0 j1 : Nat} {ls : List Env} {h h' h'' : Heap}
structure Old (L W0 W1 l0 l1 : Addr) (ls : List Env) (h : Heap) : Prop where
  h0 : ∃ o, h.get? W0 = some o
  h1 : ∃ o, h.get? W1 = some o
  hh0 : ∃ o, h.get? l0 = some o
  hh1 : ∃ o, h.get? l1 = some o
  n0 : W0 ≠ L
  n1 : W1 ≠ L
  nl0 : l0 ≠ L
  nl1 : l1 ≠ L
  hls : ∀ env ∈ ls, ∀ L', env.frame = some L' → ∃ o, h.get? L' = some o
theorem After.step {Z : Addr → Prop} (a : After mg mb L W0 W1 l0 l1 it0 it1 j0 j1 ls h h') (k : KeepS Z h' h'') (hz : ∀ b, Z b → b = L ∨ h.get? b = none) (hF : Fair Z h') (hL : ∃ m, h''.Ns L m) (O : Old L W0 W1 l0 l1 ls h) : After mg mb L W0 W1 l0 l1 it0 it1 j0 j1 ls h h'' := by
  have nz : ∀ b, (∃ o, h.get? b = some o) → b ≠ L → ¬ Z b := fun b ho hb q => by
    obtain ⟨o, ho⟩ := ho
    rcases hz b q with q | q
    · exact hb q
    · rw [ho] at q; cases q
  refine ⟨a.k.drop k fun b hb hx => ?_, a.t17.post k fun q => absurd (hF 17 q).1 (by decide), a.sys.keep k hF, a.w0.keep k (nz _ O.h0 O.n0) (nz _ O.hh0 O.nl0), a.w1.keep k (nz _ O.h1 O.n1) (nz _ O.hh1 O.nl1), ?_⟩
  · rcases hz b hb with q | q
    · exact absurd (.inr (.inr (.inl q))) hx
    · exact q
  · obtain ⟨m, hm⟩ := hL
    refine a.fr.keepN' k hm fun env he L' hf q => ?_
    rcases hz L' q with q | q
    · exact q
    · obtain ⟨o, ho⟩ := O.hls env he L' hf
      rw [ho] at q; cases q
theorem Gst.old {m : PySem.Str → Option Value} {i0 i1 : Nat} {xs0 xs1 fs : List Thing} {vs : List Value} {Fn cl : Addr} {pl : Value} {env : Env} (G : Gst mg mb m L W0 W1 l0 l1 it0 it1 i0 i1 xs0 xs1 vs fs Fn cl pl (env :: ls) h) : Old L W0 W1 l0 l1 ls h := by
  obtain ⟨o0, ho0, _⟩ := G.w0.it
  obtain ⟨o1, ho1, _⟩ := G.w1.it
  obtain ⟨p0, hp0, _⟩ := G.w0.lst
  obtain ⟨p1, hp1, _⟩ := G.w1.lst
  refine ⟨⟨o0, ho0⟩, ⟨o1, ho1⟩, ⟨p0, hp0⟩, ⟨p1, hp1⟩, G.nL0, G.nL1, fun q => ?_, fun q => ?_, fun env' he L' hf => ?_⟩
  · have := G.w0; rw [q] at this; exact this.list_ne_ns G.ns
  · have := G.w1; rw [q] at this; exact this.list_ne_ns G.ns
  · obtain ⟨_, L2, o, es, n, hf', hb, ho, hd⟩ := G.fr env' (List.mem_cons_of_mem _ he)
    rw [hf] at hf'; cases hf'; exact ⟨o, ho⟩
/-- list S is as it was -/
def SK (S : Addr) (h h' : Heap) : Prop := ∀ acc cc, h.get? S = some (lstO acc cc) → h'.get? S = some (lstO acc cc)
def REnd (mg mb : PySem.Str → Option Value) (L W0 W1 l0 l1 : Addr) (it0 it1 : Array Value) (ls : List Env) (h : Heap) (S : Addr) : GenEnd := fun n s₀ r s₁ =>
  r = .ok (.ret .none) ∧ n = 0 ∧ ∃ h' tk', s₁ = ⟨h', s₀.gens, s₀.drawn, tk', s₀.os⟩ ∧ After mg mb L W0 W1 l0 l1 it0 it1 it0.size it1.size ls h h' ∧ SK S s₀.heap h'
def YPr (mg mb : PySem.Str → Option Value) (L W0 W1 l0 l1 : Addr) (it0 it1 : Array Value) (ls : List Env) (h : Heap) (S : Addr) (outs : List Thing) : Protocol := fun m s₀ v s kap =>
  ∃ j b t h' tk', m + j + 1 = outs.length ∧ outs[j]? = some (.bytes b) ∧ v = .bytes b t ∧ s = ⟨h', s₀.gens, s₀.drawn, tk', s₀.os⟩ ∧ After mg mb L W0 W1 l0 l1 it0 it1 it0.size it1.size ls h h' ∧ SK S s₀.heap h' ∧
    ∀ s'', KeepS (· = S) h' s''.heap → (∃ acc cc, s''.heap.get? S = some (lstO acc cc)) → kap (.send .none) s''
end
theorem over2_handled {B : Around} {c c' : Code} {K : Result → Sem PySem.Fin} {p : Pos} (hB : B.handled = none) : (B.over c [.ret K none false [] c' p []]).handled = none := by
  show (marksOver [.ret K none false [] c' p []] (B.handled, B.handled)).1 = none
  rw [hB]; rfl
section
variable {w : World} {B : Around} {mg mb : PySem.Str → Option Value} {L W0 W1 l0 l1 S R I : Addr} {it0 it1 items : Array Value} {ls : List Env} {h : Heap} {pm : Value} {outs : List Thing}
theorem seg_lines (hB : B.handled = none) (O : Old L W0 W1 l0 l1 ls h) (hTx : Texts items outs) (hsm : ∀ b, Thing.bytes b ∈ outs → b.size ≤ 1000) (hSn : h.get? S = none) (hSz : nB ≤ S) (hL : nB ≤ L) {K : Flow → Sem PySem.Fin} {H : Value → Sem PySem.Fin} {p : Pos}
    (hK : K .next = .pure (.done (.ret .none))) :
    ∀ k j h' tk' (s₀ : Shared), j + k = outs.length → Lst mg mb L W0 W1 l0 l1 it0 it1 ls h S R I items j h' → SK S s₀.heap h' → (∃ acc cc, h'.get? S = some (lstO acc cc)) →
      Seg (model P w) B (REnd mg mb L W0 W1 l0 l1 it0 it1 ls h S) (YPr mg mb L W0 W1 l0 l1 it0 it1 ls h S outs) k s₀ (.forLoop forTgt (.ref I) forBody [] (dbEnv L pm)) ((model P w).den (.forLoop forTgt (.ref I) forBody [] (dbEnv L pm)))
        [.ret (fun r => ((match r with | .ok f => (.pure f : Sem Flow) | .error e => .raise e).onRaise fun (x : Value) => do
          if (← field x 1) == Value.none then unsupported "frame.own-activation:exception-without-traceback"
          setFlight x (dbEnv L pm).frame).wrap K H id id) none false [] (.func dbBody (dbEnv L pm)) p []] ⟨h', s₀.gens, s₀.drawn, tk', s₀.os⟩ := by
  intro k
  induction k with
  | zero =>
    intro j h' tk' s₀ hj X hSK hS
    refine seg_forLoop ?_
    refine well_over (over2_handled hB) X.it (Array.getElem?_eq_none (by rw [hTx.1]; omega)) fun h2 w2 s2 => ?_
    have k2 : KeepS (· = I) h' h2 := KeepS.of_extBut s2 rfl
    obtain ⟨m, hn⟩ := X.ns
    have hLI : ¬ L = I := fun q => by rw [q] at hn; exact X.it.ne_ns hn
    have hFI : Fair (· = I) h' := by
      obtain ⟨o, ho, hc, _⟩ := X.it.it
      exact Fair.cls ho (by rw [hc]; decide) X.hI
    have af2 := X.af.step k2 (fun b hb => .inr (hb ▸ X.freshI)) hFI ⟨m, k2.ns hLI hn⟩ O
    show Seg _ _ _ _ _ _ _ (leafOf (.ok .next)) _ _
    refine seg_leaf (.ok .next) ?_
    show Seg _ _ _ _ _ _ _ (K .next) _ _
    rw [hK]
    exact seg_end (.ok (.ret .none)) ⟨rfl, rfl, h2, tk', rfl, af2, fun acc cc hh => k2.get (Ne.symm X.IS) (hSK acc cc hh) (by simp)⟩
  | succ k ih =>
    intro j h' tk' s₀ hj X hSK hS
    refine seg_forLoop ?_
    have hjl : j < outs.length := by omega
    obtain ⟨b, t, hy, hit⟩ := hTx.2 j outs[j] (List.getElem?_eq_getElem hjl)
    refine well_next X.it hit fun h2 w2 s2 => ?_
    refine wpAny_of_eq (a := ()) (by rfl) ?_
    obtain ⟨m, hn⟩ := X.ns
    have hLI : ¬ L = I := fun q => by rw [q] at hn; exact X.it.ne_ns hn
    have hLR : ¬ L = R := fun q => by rw [q] at hn; exact X.it.list_ne_ns hn
    have k2 : KeepS (· = I) h' h2 := KeepS.of_sameBut s2 rfl
    have hn2 := k2.ns hLI hn
    have hFI : Fair (· = I) h' := by
      obtain ⟨o, ho, hc, _⟩ := X.it.it
      exact Fair.cls ho (by rw [hc]; decide) X.hI
    have af2 := X.af.step k2 (fun b hb => .inr (hb ▸ X.freshI)) hFI ⟨m, hn2⟩ O
    refine wpAny_assign_Name (wpAny_storeName_local (by rfl) hn2 (fun h3 hn3 s3 => ?_) (by rfl))
    have k3 : KeepS (· = L) h2 h3 := KeepS.of_sameBut s3 rfl
    have af3 := af2.step k3 (fun b hb => .inl hb) (Fair.ns hn2 hL) ⟨_, hn3⟩ O
    have w3 : Well h3 I R items (j + 1) := w2.keep k3 (Ne.symm hLI) (Ne.symm hLR)
    obtain ⟨acc0, cc0, hS0⟩ := hS
    have hSL : S ≠ L := fun q => by
      obtain ⟨o, _, _, ho, hd, _⟩ := hn
      rw [← q, hS0] at ho; cases ho; cases hd
    have hS3 : ∀ acc cc, h'.get? S = some (lstO acc cc) → h3.get? S = some (lstO acc cc) := fun acc cc hh => k3.get hSL (k2.get (Ne.symm X.IS) hh (by simp)) (by simp)
    refine seg_execs_cons ?_
    refine seg_Expr_Yield rfl rfl rfl ?_
    refine wpAny_Call_method (T := "str") (id := "str.encode") rfl rfl rfl PySem.F.plainAttrs_str PySem.F.slot_str_encode PySem.F.type_str_encode ?_
    refine wpAny_Name (wpAny_loadName_local rfl rfl hn3 rfl ⟨rfl, fun _ e => (nomatch e), ?_⟩)
    refine callWith_builtin rfl (args2_str ?_)
    have hsz : (decTxt b).cps.size ≤ 1000 := by
      have := hsm b (hy ▸ List.getElem_mem _)
      simpa [decTxt] using this
    refine str_encode (fun c hc => ?_) hsz fun t' tk2 kap hkap => ?_
    · simp only [decTxt, Array.toList_map, List.mem_map] at hc
      obtain ⟨y, _, rfl⟩ := hc
      exact okCp_dec y
    rw [enc_dec]
    refine ⟨j, b, t', h3, tk2, by omega, by rw [List.getElem?_eq_getElem hjl, hy], rfl, rfl, af3, fun acc cc hh => hS3 acc cc (hSK acc cc hh), fun s'' ks hS'' => hkap .none s'' ?_⟩
    show Seg _ _ _ _ _ _ _ (.pure (.again (.forLoop forTgt (.ref I) forBody [] (dbEnv L pm)))) _ _
    refine seg_again rfl ?_
    have hn4 := ks.ns (Ne.symm hSL) hn3
    have hFS : Fair (· = S) h3 := Fair.cls (hS3 _ _ hS0) (by simp) hSz
    have af4 := af3.step ks (fun b hb => .inr (hb ▸ hSn)) hFS ⟨_, hn4⟩ O
    have := ih (j + 1) s''.heap s''.toks s'' (by omega) ⟨af4, ⟨_, hn4⟩, w3.keep ks X.IS X.RS, X.freshI, X.freshR, X.IS, X.RS, X.hI⟩ (fun _ _ q => q) hS''
    exact this
end
end Mine
end
section
open PySem PySem.W PyProof.Rows PySem.Calls
set_option maxRecDepth 100000
namespace Mine
section
variable {w : World} {A : Around} {E : Value → Shared → Prop} {h : Heap} {g : Array GenState} {d : Drawn} {tk : Nat} {os : OsState} {mg mb : PySem.Str → Option Value} {pm : Value}
  {L W0 W1 l0 l1 Fn cl Rp : Addr} {it0 it1 : Array Value} {i0 i1 gn : Nat} {xs0 xs1 : List Thing} {pl : Value} {ls : List Env} {t1 t2 : Tok}
theorem After.grow {j0 j1 : Nat} {h' h'' : Heap} (a : After mg mb L W0 W1 l0 l1 it0 it1 j0 j1 ls h h') (k : Grow h' h'') : After mg mb L W0 W1 l0 l1 it0 it1 j0 j1 ls h h'' := by
  have k' : KeepS Nil h' h'' := .of_grow k
  exact ⟨a.k.trans (k'.mono fun _ q => q.elim), a.t17.post k' id, a.sys.keep k' Fair.nil, a.w0.keep k' id id, a.w1.keep k' id id, a.fr.keep k' fun _ _ _ _ => id⟩
theorem report_ok {v0 v1 v2 v3 v4 nv : Value} {x0 x1 x2 x3 x4 : Thing} {Q : Value → Shared → Prop}
    (G : Gst mg mb (fun x => (dbBinds Fn W0 W1 v0 v1 v2 v3 nv v4).reverse.lookup x) L W0 W1 l0 l1 it0 it1 i0 i1 xs0 xs1 [v0, v1, v2, v3, v4] [x0, x1, x2, x3, x4] Fn cl pl (dbEnv L pm :: ls) h)
    (hv : verdict (scan (xs0.drop i0)).2 (scan (xs1.drop i1)).2 [x0, x1, x2, x3, x4] = none)
    (hroom : A.depth + 5 < recursionLimit) (hA : A.handled = none) (hfr : A.frames = some ls) (hg : A.guards = some []) (hu : A.units + 90 < cLine)
    (hRp : h.get? Rp = some (genO gn t1 t2)) (hgs : g[gn]? = some (.fresh (.func dbBody (dbEnv L pm))))
    (hq : ∀ h' S acc cc tk', After mg mb L W0 W1 l0 l1 it0 it1 it0.size it1.size ls h h' → h.get? S = none → h'.get? S = some (lstO acc cc) → OutB acc (outsOf [x0, x1, x2, x3, x4] (xs0.drop i0) (xs1.drop i1)) →
      Q (.ref S) ⟨h', g.setIfInBounds gn .finished, d, tk', os⟩) :
    wpAny (model P w) A (call (.type "list") [.ref Rp]) Q E ⟨h, g, d, tk, os⟩ := by
  have hSn : h.get? h.objs.size = none := Heap.get?_none_of_le (Nat.le_refl _)
  have hSz : nB ≤ h.objs.size := Nat.le_of_lt (Nat.lt_of_le_of_lt G.hL G.ns.lt)
  refine list_call (T := "generator") hRp rfl ⟨by decide, by decide, gen_no_len, gen_no_hint⟩ (fun A s Q E hI q => wpAny_pyIter_gen (isGen_of hI) q) fun h1 c1 s1 hS1 => ?_
  have k1 : KeepS Nil h h1 := (KeepS.of_grow (Grow.push h (lstO #[] 0)) : KeepS Nil h _).drop (KeepS.of_sameBut (X := (· = h.objs.size)) s1 rfl) fun b hb _ => hb ▸ hSn
  generalize hS : h.objs.size = S at *
  have G1 := G.nil k1
  have hRp1 := k1.get id hRp (fun _ _ q => by cases q)
  generalize hO : outsOf [x0, x1, x2, x3, x4] (xs0.drop i0) (xs1.drop i1) = outs at *
  let R := REnd mg mb L W0 W1 l0 l1 it0 it1 ls h S
  let Y := YPr mg mb L W0 W1 l0 l1 it0 it1 ls h S outs
  have hlen : outs.length < 5000 := by
    have a0 := G.m0; have a1 := G.m1; have b0 := G.t0.len; have b1 := G.t1.len
    rw [← hO]
    simp only [outsOf, List.length_append, List.length_cons, List.length_nil, List.length_drop]
    omega
  have hgn : gn < g.size := (Array.getElem?_eq_some_iff.mp hgs).1
  refine ext_loop (J := fun n acc s => ∃ h' tk' gs j, s = ⟨h', g.setIfInBounds gn gs, d, tk', os⟩ ∧ j + n = outs.length ∧ OutB acc (outs.take j) ∧ Sys mg mb h' ∧ h'.get? Rp = some (genO gn t1 t2) ∧
    ∀ s'', s''.heap = h' → gs.Goes (model P w) A.in1.in1.in1 R Y n (.send .none) s'') ?_ outs.length #[] _ c1 ⟨h1, tk, .fresh (.func dbBody (dbEnv L pm)), 0, ?_, by omega, ⟨by simp, fun j y hy => by simp at hy⟩, G1.sys, hRp1, ?_⟩ hS1
  · rintro n acc s cc ⟨h', tk', gs, j, rfl, hjn, hacc, S', hR', hgo⟩ hS'
    refine gen_next (n := n) (R := R) (Y := Y) hA S'.B.lim (by show A.depth < _; omega) (isGen_of hR') (gs := gs) (by simp [hgn]) (hgo _ rfl) (fun v s₁ gs' hb hy => ?_) ?_
    · obtain ⟨j', b, t, h2, tk2, hm, hob, rfl, rfl, af, sk, hk⟩ := hy
      have hS2 := sk acc cc hS'
      cases n with
      | zero => exact (hk ⟨h2, #[], d, tk2, os⟩ (KeepS.refl _ _) ⟨acc, cc, hS2⟩).elim
      | succ n =>
        have hjj : j' = j := by omega
        subst hjj
        refine ⟨⟨cc, hS2⟩, ?_, fun h3 s3 hS3 => ⟨n, Nat.lt_succ_self n, h3, tk2, gs', j' + 1, ?_, by omega, ?_, ?_, ?_, fun s'' hs'' => ?_⟩⟩
        · rw [hacc.1, List.length_take]; omega
        · simp only [Shared.setGen, Array.setIfInBounds_setIfInBounds]
        · rw [List.take_add_one, hob]
          exact hacc.push
        · exact af.sys.keep (KeepS.of_sameBut (X := (· = S)) s3 rfl) (Fair.cls hS2 (by simp) hSz)
        · have hRS : Rp ≠ S := fun q => by rw [q, hSn] at hRp; cases hRp
          exact (s3.2 _ hRS).trans (af.k.get ((Gst.oddX G).not hRp ⟨by simp [genO], by simp [genO]⟩ (by simp [genO])) hRp (fun _ _ q => by cases q))
        · refine hk s'' (by rw [hs'']; exact KeepS.of_sameBut s3 rfl) ?_
          obtain ⟨c3, hS3⟩ := hS3
          exact ⟨_, c3, by rw [hs'']; exact hS3⟩
    · rintro r s₁ ⟨rfl, rfl, h2, tk2, rfl, af, sk⟩
      refine .inl ⟨rfl, fun h3 k3 => ?_⟩
      have hS3 := k3 _ _ (sk acc cc hS')
      refine ⟨⟨cc, hS3⟩, rfl, ?_⟩
      have hac : OutB acc outs := by
        have : outs.take j = outs := List.take_of_length_le (by omega)
        rw [this] at hacc; exact hacc
      have := hq h3 S acc cc tk2 (af.grow k3) hSn hS3 hac
      simp only [Shared.setGen, Array.setIfInBounds_setIfInBounds]
      exact this
  · have : g.setIfInBounds gn (.fresh (.func dbBody (dbEnv L pm))) = g := by
      apply Array.ext
      · simp
      · intro i h1 h2
        rw [Array.getElem_setIfInBounds]
        split
        · rename_i q
          subst q
          exact ((Array.getElem?_eq_some_iff.mp hgs).2).symm
        · rfl
    rw [this]
  · rintro ⟨h1', g', d', tk', os'⟩ rfl
    refine ⟨rfl, ?_⟩
    refine seg_func ?_
    rw [execs_db, execs_app_wrap]
    refine seg_wrap (body_pre G1 (by rw [over_depth]; show A.depth + 1 + 3 < _; omega) hA (over_frames hfr) hg (by rw [over_units]; show A.units + 1 + 1 + 1 + 3 + 70 < _; omega)
      (fun _ h2 h3 m' Rl aa bb t b0 b1 b2 b3 b4 u0 u1 u2 u3 u4 tk3 k2 t17 k3 G3 hml hRl hRn ta tb e0 e1 e2 e3 e4 => ?_) fun x' hx' => by rw [hv] at hx'; cases hx')
    show Seg _ _ _ _ _ _ _ ((execs dbFor _).wrap _ _ _ _) _ _
    refine seg_execs_cons ?_
    refine seg_For ?_
    refine wpAny_Name (wpAny_loadName_local rfl rfl G3.ns hml ?_)
    refine wpAny_pyIter_list (l := Rl) ⟨_, hRl, rfl, _, rfl⟩ fun p => ?_
    subst e0 e1 e2 e3 e4
    have k4 : Grow h3 (h3.push { cls := .type "list_iterator", data := .fields #[.ref Rl, .int 0 0] }) := Grow.push _ _
    have K4 : KeepS Nil h3 _ := .of_grow k4
    have kA : KeepS (XX W0 W1 L) h h2 := (k1.mono fun _ q => q.elim).trans (k2.mono fun a q => q.elim (fun q => .inr (.inr (.inl q))) fun q => .inr (.inr (.inr q)))
    have kB : KeepS (XX W0 W1 L) h2 h3 := k3.mono fun a q => q.elim .inl fun q => .inr (q.elim .inl fun q => .inr (.inl q))
    have oS : ¬ XX W0 W1 L S := (Gst.oddX G1).not hS1 ⟨by simp, by simp⟩ (by simp)
    have kS : KeepS (XX W0 W1 L) h1' h3 := (k2.mono fun a q => q.elim (fun q => .inr (.inr (.inl q))) fun q => .inr (.inr (.inr q))).trans kB
    have hS3 : ∀ acc cc, h1'.get? S = some (lstO acc cc) → h3.get? S = some (lstO acc cc) := fun acc cc q => kS.get oS q (by simp)
    have hIS : h3.objs.size ≠ S := Nat.ne_of_gt (Heap.lt_size (hS3 _ _ hS1))
    have hIn : h.get? h3.objs.size = none := by
      refine (kA.trans kB).none ?_ (Heap.get?_none_of_le (Nat.le_refl _))
      intro q
      obtain ⟨o, ho, _⟩ := (Gst.oddX G3) _ q
      exact absurd (Heap.lt_size ho) (Nat.lt_irrefl _)
    refine seg_lines (B := A.in1.in1.in1) (outs := outs) (R := Rl) (I := h3.objs.size) (items := echoOut aa bb (.str (decTxt b0) u0) (.str (decTxt b1) u1) (.str (decTxt b2) u2) (.str (decTxt b3) u3) (.str (decTxt b4) u4) t) hA G.old ?_ ?_ hSn hSz G.hL ?_ outs.length 0 _ _ ⟨h1', g', d', tk', os'⟩ (by omega) ⟨?_, ⟨m', G3.ns.push _⟩, ⟨?_, ?_⟩, hIn, k1.none id hRn, hIS, ?_, ?_⟩ (fun acc cc q => Heap.get?_push_of_some _ (hS3 _ _ q)) ⟨_, _, Heap.get?_push_of_some _ (hS3 _ _ hS1)⟩
    · rw [← hO]; exact echo_texts ta tb
    · intro b hb
      rw [← hO] at hb
      simp only [outsOf, List.mem_append, List.mem_singleton] at hb
      rcases hb with ((hb | hb) | hb) | hb
      · have : b.size ≤ 2 := G.ok5 _ hb; omega
      · have : b.size ≤ 2 := G.t0.ok _ (List.mem_of_mem_drop hb); omega
      · cases hb; decide
      · have : b.size ≤ 2 := G.t1.ok _ (List.mem_of_mem_drop hb); omega
    · rfl
    · refine After.grow ⟨kA.trans kB, (t17.pre k1 G.sys.t17).post k3 (Y3.n17 G), G3.sys, G3.w0, G3.w1, fun env he => G3.fr env (List.mem_cons_of_mem _ he)⟩ k4
    · exact ⟨_, k4 _ _ hRl, rfl, _, rfl⟩
    · exact ⟨_, Heap.get?_push_size _ rfl, rfl, .inl rfl⟩
    · intro q; rw [q, hS1] at hRn; cases hRn
    · exact Nat.le_of_lt (Nat.lt_of_le_of_lt G.hL G3.ns.lt)
end
end Mine
end
section
open PySem PySem.W PyProof.Rows PySem.Calls
set_option maxRecDepth 100000
namespace Mine
section
variable {w : World} {A : Around} {E : Value → Shared → Prop} {h : Heap} {g : Array GenState} {d : Drawn} {tk : Nat} {os : OsState} {mg mb : PySem.Str → Option Value}
/-- range(N) walked: the iterator -/
theorem range_walk {env : Env} {e : Expr} {rp rpos : Pos} {K : Value → Shared → Prop} {N : Nat} (Nm : Names mg mb) (B : Base mg mb h) (hA : A.handled = none)
    (hk : env.scope.kind = .function) (hg : env.globals = mainGlobals) (hb : env.builtins = builtinsNs) (hx : env.kindOf (PySem.Str.ofString "range") = some .globalImplicit) (hN : N < 100000)
    (hse : starEach [e] env = [(false, eval e env)])
    (h1 : wpAny (model P w) A (eval e env) (fun v s₁ => ∃ t h1 tk1, v = .int N t ∧ s₁ = ⟨h1, g, d, tk1, os⟩ ∧ 
      ∀ h2 I tk2, Grow h1 h2 → h1.get? I = none → IsRangeIter h2 I (0 + ((0 : Nat) : Int) * 1) ((N : Int) - ((0 : Nat) : Int)) 1 → Walks P w A I [I] [I] N (fun i v => ∃ t, v = .int (0 + i * 1) t) (fun i h => IsRangeIter h I (0 + (i : Nat) * 1) ((N : Int) - (i : Nat)) 1) → K (.ref I) ⟨h2, g, d, tk2, os⟩) E ⟨h, g, d, tk, os⟩) :
    wpAny (model P w) A (eval (.Call (.Name (PySem.Str.ofString "range") rp) [e] [] rpos) env) (fun xv s₁ => wpAny (model P w) A (pyIter xv) K E s₁) E ⟨h, g, d, tk, os⟩ := by
  refine wpAny_Call_ofName ?_
  refine name_bui Nm B hk hg hb hx (Nm.no _ (by decide)) (by decide) (v := .type "range") (by decide +kernel) (by decide) ?_
  refine PyProof.Rows.callWith_type1 ?_ hse
  rw [hse]
  refine spliced_cons (wpAny_mono h1 (fun v s₁ h1 => ?_) fun _ _ q => q)
  obtain ⟨t, h1, tk1, rfl, rfl, hK⟩ := h1
  refine spliced_nil ?_
  refine call_range_1 ?_
  refine wpAny_pyIter_range (IsRange.new ..) (small_one (by decide) (by decide) (by omega) (by omega)) ?_
  have hsz : Builtin.Range.rangeSize 0 N 1 = (N : Int) := by rw [rangeSize_one]; split <;> omega
  refine hK _ _ _ (fun _ _ e => Heap.get?_push_of_some _ (Heap.get?_push_of_some _ e)) (Heap.get?_none_of_le (by simp [Heap.size_push])) ?_ (Walks.range hA _ 0 1 N)
  have e1 : (0 + ((0 : Nat) : Int) * 1) = 0 := by simp
  have e2 : ((N : Int) - ((0 : Nat) : Int)) = Builtin.Range.rangeSize 0 N 1 := by rw [hsz]; simp
  rw [e1, e2]
  exact Heap.get?_push_size _ rfl
end
end Mine
end
section
open PySem PySem.W PyProof.Rows PySem.Calls
set_option maxRecDepth 100000
namespace Mine
def ocScope : Scope := match fnBody 3 with | [.Return (some (.List (.Call _ [.ListComp _ _ s _] _ _ :: _) _)) _] => s | _ => default
theorem paired_ints : ∀ {vs ys : List Value}, Paired (fun _ y => ∃ (k : Int) (t : Tok), y = .int k t ∧ 0 ≤ k ∧ k < 256) vs ys → ∃ ns, IntsAre ys ns ∧ (∀ n ∈ ns, 0 ≤ n ∧ n < 256) ∧ ns.length = vs.length
  | _, _, .nil => ⟨[], .nil, fun _ h => (nomatch h), rfl⟩
  | _, _, .cons ⟨k, t, e, h0, h1⟩ p => by
    obtain ⟨ns, a, b, c⟩ := paired_ints p
    subst e
    refine ⟨k :: ns, .cons k t a, fun n hn => ?_, by simp [c]⟩
    rcases List.mem_cons.mp hn with rfl | hn
    · exact ⟨h0, h1⟩
    · exact b n hn
theorem nopylong (a : Int) {b : Int} (hb : b.natAbs < 1000) : ¬ (Builtin.divisionGoesByPylong a b) = true := by
  unfold Builtin.divisionGoesByPylong
  have : ¬ ((if (b == 0) = true then 0 else b.natAbs.log2 / 30 + 1) > 300) := by
    split
    · omega
    · have : b.natAbs.log2 < 1000 := by
        rcases Nat.eq_zero_or_pos b.natAbs with q | q
        · rw [q]; decide
        · exact Nat.lt_of_le_of_lt (Nat.log2_le_self _) hb
      omega
  simp only [this, decide_false, Bool.false_and, Bool.false_eq_true, not_false_eq_true]
def ocEnv (L : Addr) (pm : Value) : Env := callEnvC (ocFd pm) L 27
section
variable {w : World} {A : Around} {E : Value → Shared → Prop} {h : Heap} {g : Array GenState} {d : Drawn} {tk : Nat} {os : OsState} {mg mb : PySem.Str → Option Value}
theorem oct_call {n : Int} {t : Tok} {Q : Value → Shared → Prop} (S : Sys mg mb h) (hroom : A.depth < recursionLimit) (hA : A.handled = none)
    (hq : ∀ h' R b t1 t2 tk', Grow h h' → h.get? R = none → b.size ≤ 2 → h'.get? R = some (lstO #[.bytes b t1, .str (PySem.Str.ofString "") t2] 0) → Q (.ref R) ⟨h', g, d, tk', os⟩) :
    wpAny (model P w) A (call (.ref 27) [.int n t]) Q E ⟨h, g, d, tk, os⟩ := by
  obtain ⟨pm, hoc⟩ := S.oc
  refine wpAny_call (codeAny_call_cells (fd := ocFd pm) (body := fnBody 3) (binds := [(PySem.Str.ofString "number", .int n t)]) hroom hoc rfl S.B.lim S.occ rfl (by kernel_rfl) rfl (fun x hx => ?_) fun s₁ x => ?_)
  · rw [List.mem_singleton.mp hx]; exact .inr ⟨by rfl, by rfl⟩
  have hcell := x.cell (PySem.Str.ofString "number") (h.objs.size + 1) (by rfl)
  obtain ⟨h1, tk1, rfl, k1⟩ := x.done
  have hns := x.toInCall.ns
  generalize hA1 : A.deeper (callEnvC (ocFd pm) h.objs.size 27) = A1
  have hA1h : A1.handled = none := by subst hA1; exact hA
  have B1 := S.B.keeps k1
  refine wpAny_execs_cons (wpAny_Return_some (wpAny_List (spliced_more ?_)))
  refine wpAny_Call_ofName ?_
  refine name_bui S.N B1 rfl rfl rfl (by rfl) (S.N.no _ (by decide)) (by decide) (v := .type "bytes") (by decide +kernel) (by decide) ?_
  refine PyProof.Rows.callWith_type1 ?_
  refine spliced_more ?_
  refine wpAny_ListComp_free (fun _ => true) (fun _ y => ∃ (k : Int) (t : Tok), y = .int k t ∧ 0 ≤ k ∧ k < 256) (cl := [(PySem.Str.ofString "number", h.objs.size + 1)]) (by rfl) (by decide) (by rfl) (by decide) (by rfl) ?_
  have hm0 : 0 ≤ n.fmod 3 := Int.fmod_nonneg_of_pos n (by decide)
  have hm1 : n.fmod 3 < 3 := Int.fmod_lt_of_pos n (by decide)
  have hNe : ((n.fmod 3).toNat : Int) = n.fmod 3 := Int.toNat_of_nonneg hm0
  refine range_walk (N := (n.fmod 3).toNat) S.N B1 hA1h rfl rfl rfl (by rfl) (by omega) (by rfl) ?_
  have hc1 : h1.IsCell (h.objs.size + 1) (some (.int n t)) := hcell
  refine wpAny_BinOp ?_
  refine wpAny_Name (wpAny_loadName_cell (c := h.objs.size + 1) rfl (by rfl) (by rfl) hc1 ?_)
  refine wpAny_Constant_int ?_
  refine PyProof.Rows.mod_int (by decide) ?_
  refine ⟨_, h1, _, by rw [hNe], rfl, fun h2 I tk2 k2 hIn hIR W => ?_⟩
  refine ⟨I, _, _, _, _, _, rfl, W, Nat.le_trans (show _ ≤ 3 by omega) (by decide +kernel), hIR, fun b hb => by rw [List.mem_singleton.mp hb]; exact Heap.lt_size hIR, ⟨fun C i v s₃ m₃ E' hC hP hn hv hk htk => ?_, fun C i v s₃ m₃ E' hC hP _ hn hv hk htk => ?_⟩, fun D h3 tk3 ys vs hD hl hpl hlen hP hF hk => ?_⟩
  · exact wpAny_tests_nil ⟨rfl, s₃.heap, s₃.toks, rfl, fun _ _ e => e⟩
  · obtain ⟨u, rfl⟩ := hP
    have hIc : h.objs.size + 1 ∉ [I] := fun q => by
      have q := List.mem_singleton.mp q
      obtain ⟨o, ho, _⟩ := hc1
      rw [q, hIn] at ho; cases ho
    have hc3 : s₃.heap.IsCell (h.objs.size + 1) (some (.int n t)) := by
      obtain ⟨o, ho, hd⟩ := hc1
      exact ⟨o, hk _ _ hIc (k2 _ _ ho), hd⟩
    obtain ⟨h3, g3, d3, tk3, os3⟩ := s₃
    refine wpAny_BinOp (wpAny_BinOp (wpAny_BinOp ?_))
    refine wpAny_Name (wpAny_loadName_cell (c := h.objs.size + 1) rfl (by rfl) (by rfl) hc3 ?_)
    refine wpAny_Constant_int ?_
    refine AutoIntOps.floordiv_1 (by decide) (nopylong _ (by decide)) ?_
    refine wpAny_BinOp ?_
    refine wpAny_Constant_int ?_
    refine wpAny_Name (wpAny_loadName_local rfl (by rfl) hn hv ?_)
    refine PyProof.Rows.mul_int ?_
    refine PyProof.Rows.add_int ?_
    refine wpAny_Constant_int ?_
    refine PyProof.Rows.mod_int (by decide) ?_
    exact ⟨⟨_, _, rfl, Int.fmod_nonneg_of_pos _ (by decide), Int.fmod_lt_of_pos _ (by decide)⟩, h3, _, rfl, fun _ _ e => e⟩
  have hf : vs.filter (fun _ => true) = vs := by simp
  rw [hf] at hF
  obtain ⟨ns, hints, hns, hln⟩ := paired_ints hF
  refine spliced_none ?_
  have hys : ys.toList.toArray = ys := by simp
  refine call_bytes_ints (vs := ys.toList) (ns := ns) (by rw [hys]; exact hl) hints hns (Nat.le_trans (show _ ≤ 3 by rw [hints.length, hln, hlen]; omega) (by decide +kernel)) hA1h fun h4 t4 tk4 k4 => ?_
  refine spliced_more ?_
  refine wpAny_Constant_str ?_
  refine spliced_none ⟨by show 2 ≤ sizeLine; decide +kernel, ?_⟩
  have kI : ∀ b o, h1.get? b = some o → h3.get? b = some o := fun b o e => hk b o (fun q => by
    rw [List.mem_singleton.mp q] at e
    rw [hIn] at e; cases e) (k2 _ _ e)
  have kk : Grow h (h4.push { cls := .type "list", data := .seq [Value.bytes (byteArr ns) t4, Value.str (PySem.Str.ofString "") tk4].toArray }) := fun b o e => Heap.get?_push_of_some _ (k4 _ _ (kI _ _ (k1 _ _ e)))
  refine hq _ h4.objs.size (byteArr ns) t4 _ _ kk ?_ (by rw [byteArr_size, hln, hlen]; omega) (Heap.get?_push_size _ rfl)
  cases hz : h.get? h4.objs.size with
  | none => rfl
  | some o => exact absurd (Heap.lt_size (k4 _ _ (kI _ _ (k1 _ _ hz)))) (Nat.lt_irrefl _)
end
end Mine
end
section
open PySem PySem.W PyProof.Rows PySem.Calls
set_option maxRecDepth 100000
namespace Mine
def T1 (i : Int) : PySem.Str := PySem.Str.ofString "int (" ++ PySem.Str.ofString (toString i) ++ PySem.Str.ofString ")"
def T2 (z : PySem.Str) : PySem.Str := PySem.Str.ofString "str ('" ++ z ++ PySem.Str.ofString "')"
def T3 (i : Int) : PySem.Str := PySem.Str.ofString "list ([" ++ PySem.Str.ofString (toString i) ++ PySem.Str.ofString "])"
def T4 (i : Int) : PySem.Str := PySem.Str.ofString "tuple ((" ++ PySem.Str.ofString (toString i) ++ PySem.Str.ofString ",))"
abbrev sAll : PySem.Str := PySem.Str.ofString "all arguments must be bytes, not "
theorem due0 : sAll ++ PySem.Str.ofString "NoneType (None)" = dueOf .none := by decide +kernel
theorem due1 (n : Nat) : sAll ++ T1 n = dueOf (.int n) := by
  have e : sAll ++ PySem.Str.ofString "int (" = PySem.Str.empty ++ sAll ++ PySem.Str.ofString (tyName (.int n)) ++ PySem.Str.ofString " (" := by
    show sAll ++ PySem.Str.ofString "int (" = PySem.Str.empty ++ sAll ++ PySem.Str.ofString "int" ++ PySem.Str.ofString " ("; decide +kernel
  unfold dueOf T1
  rw [← e]
  simp only [PySem.Str.append_assoc]
  rfl
theorem due2 (c : Nat) (hc : c < 26) : sAll ++ T2 ⟨#[97 + c]⟩ = dueOf (.str (97 + c)) := by
  have e : sAll ++ PySem.Str.ofString "str ('" = PySem.Str.empty ++ sAll ++ PySem.Str.ofString "str" ++ PySem.Str.ofString " (" ++ PySem.Str.ofString "'" := by decide +kernel
  have e2 : PySem.Str.ofString "')" = PySem.Str.ofString "'" ++ PySem.Str.ofString ")" := by decide +kernel
  have er : ∀ c : Nat, c < 26 → reprText ⟨#[97 + c]⟩ = PySem.Str.ofString "'" ++ ⟨#[97 + c]⟩ ++ PySem.Str.ofString "'" := by decide +kernel
  show sAll ++ (PySem.Str.ofString "str ('" ++ ⟨#[97 + c]⟩ ++ PySem.Str.ofString "')") =
    PySem.Str.empty ++ sAll ++ PySem.Str.ofString "str" ++ PySem.Str.ofString " (" ++ reprText ⟨#[97 + c]⟩ ++ PySem.Str.ofString ")"
  rw [er c hc, e2, ← PySem.Str.append_assoc, ← PySem.Str.append_assoc, ← PySem.Str.append_assoc, e]
  simp only [PySem.Str.append_assoc]
theorem due3 (n : Nat) : sAll ++ T3 n = dueOf (.list n) := by
  have e : sAll ++ PySem.Str.ofString "list ([" = PySem.Str.empty ++ sAll ++ PySem.Str.ofString "list" ++ PySem.Str.ofString " (" ++ (PySem.Str.ofString "[" ++ PySem.Str.ofString "") := by decide +kernel
  have e2 : PySem.Str.ofString "])" = PySem.Str.ofString "]" ++ PySem.Str.ofString ")" := by decide +kernel
  show sAll ++ (PySem.Str.ofString "list ([" ++ PySem.Str.ofString (toString (n : Int)) ++ PySem.Str.ofString "])") =
    PySem.Str.empty ++ sAll ++ PySem.Str.ofString "list" ++ PySem.Str.ofString " (" ++ ((PySem.Str.ofString "[" ++ PySem.Str.ofString "" ++ PySem.Str.ofString (toString (n : Int))) ++ PySem.Str.ofString "]") ++ PySem.Str.ofString ")"
  rw [e2, ← PySem.Str.append_assoc, ← PySem.Str.append_assoc, ← PySem.Str.append_assoc, e]
  simp only [PySem.Str.append_assoc]
theorem due4 (n : Nat) : sAll ++ T4 n = dueOf (.tuple n) := by
  have e : sAll ++ PySem.Str.ofString "tuple ((" = PySem.Str.empty ++ sAll ++ PySem.Str.ofString "tuple" ++ PySem.Str.ofString " (" ++ PySem.Str.ofString "(" := by decide +kernel
  have e2 : PySem.Str.ofString ",))" = PySem.Str.ofString ",)" ++ PySem.Str.ofString ")" := by decide +kernel
  show sAll ++ (PySem.Str.ofString "tuple ((" ++ PySem.Str.ofString (toString (n : Int)) ++ PySem.Str.ofString ",))") =
    PySem.Str.empty ++ sAll ++ PySem.Str.ofString "tuple" ++ PySem.Str.ofString " (" ++ ((PySem.Str.ofString "(" ++ PySem.Str.ofString (toString (n : Int))) ++ PySem.Str.ofString ",)") ++ PySem.Str.ofString ")"
  rw [e2, ← PySem.Str.append_assoc, ← PySem.Str.append_assoc, ← PySem.Str.append_assoc, e]
  simp only [PySem.Str.append_assoc]
def thingAt (k sz : Nat) : Thing := match k with | 0 => .none | 1 => .int sz | 2 => .str (97 + sz % 26) | 3 => .list sz | _ => .tuple sz
theorem thingAt_ok {k sz : Nat} (h : sz < 100) : (thingAt k sz).ok ∧ (thingAt k sz).isB = false := by
  rcases k with _ | _ | _ | _ | k
  · exact ⟨trivial, rfl⟩
  · exact ⟨h, rfl⟩
  · exact ⟨⟨by omega, by omega⟩, rfl⟩
  · exact ⟨h, rfl⟩
  · exact ⟨h, rfl⟩
section
variable {w : World} {A : Around} {E : Value → Shared → Prop} {s : Shared}
theorem w1_op {n : Int} {t u : Tok} {Q : Value → Shared → Prop} (h0 : 0 ≤ n) (h1 : n < 100) (hq : ∀ t' k, Q (.str (T1 n) t') { s with toks := k }) : wpAny (model P w) A (binaryOp .Mod (.str (PySem.Str.ofString "int (%d)") t) (.int n u)) Q E s := by
  refine' KPc.mod_int (T := T1) ?kpcF h0 (by omega) ?kpcm hq
  (case kpcF => kpc_eq)
  (case kpcm => kpc_run)
theorem w2_op {z : PySem.Str} {t u : Tok} {Q : Value → Shared → Prop} (hz : z.length ≤ 1000000) (hq : ∀ t' k, Q (.str (T2 z) t') { s with toks := k }) : wpAny (model P w) A (binaryOp .Mod (.str (PySem.Str.ofString "str ('%s')") t) (.str z u)) Q E s := by
  refine' KPc.mod_str (T := T2) ?kpcF hz ?kpcm hq
  (case kpcF => kpc_eq)
  (case kpcm => kpc_run_s)
theorem w3_op {n : Int} {t u : Tok} {Q : Value → Shared → Prop} (h0 : 0 ≤ n) (h1 : n < 100) (hq : ∀ t' k, Q (.str (T3 n) t') { s with toks := k }) : wpAny (model P w) A (binaryOp .Mod (.str (PySem.Str.ofString "list ([%d])") t) (.int n u)) Q E s := by
  refine' KPc.mod_int (T := T3) ?kpcF h0 (by omega) ?kpcm hq
  (case kpcF => kpc_eq)
  (case kpcm => kpc_run)
theorem w4_op {n : Int} {t u : Tok} {Q : Value → Shared → Prop} (h0 : 0 ≤ n) (h1 : n < 100) (hq : ∀ t' k, Q (.str (T4 n) t') { s with toks := k }) : wpAny (model P w) A (binaryOp .Mod (.str (PySem.Str.ofString "tuple ((%d,))") t) (.int n u)) Q E s := by
  refine' KPc.mod_int (T := T4) ?kpcF h0 (by omega) ?kpcm hq
  (case kpcF => kpc_eq)
  (case kpcm => kpc_run)
end
end Mine
end
section
open PySem PySem.W PyProof.Rows PySem.Calls
set_option maxRecDepth 100000
namespace Mine
section
variable {w : World} {A : Around} {E : Value → Shared → Prop} {h : Heap} {g : Array GenState} {d : Drawn} {tk : Nat} {os : OsState} {env : Env} {Q : Value → Shared → Prop} {a b : Int} {t u : Tok} {M : Model}
theorem q_int {k : Nat} {pos : Pos} (hq : ∀ t u, Q (.int a t) ⟨h, g, d, u, os⟩) : wpAny M A (eval (.Constant (.int a) k pos) env) Q E ⟨h, g, d, tk, os⟩ := wpAny_Constant_int (hq _ _)
theorem q_str {x : PySem.Str} {k : Nat} {pos : Pos} (hq : ∀ t u, Q (.str x t) ⟨h, g, d, u, os⟩) : wpAny M A (eval (.Constant (.str x) k pos) env) Q E ⟨h, g, d, tk, os⟩ := wpAny_Constant_str (hq _ _)
theorem q_none {k : Nat} {pos : Pos} (hq : Q .none ⟨h, g, d, tk, os⟩) : wpAny M A (eval (.Constant .none k pos) env) Q E ⟨h, g, d, tk, os⟩ := wpAny_Constant_none hq
theorem q_bytes {x : List UInt8} {k : Nat} {pos : Pos} (hq : ∀ t u, Q (.bytes x.toArray t) ⟨h, g, d, u, os⟩) : wpAny M A (eval (.Constant (.bytes x) k pos) env) Q E ⟨h, g, d, tk, os⟩ := fun _ _ _ => hq _ _
theorem q_add (hq : ∀ t u, Q (.int (a + b) t) ⟨h, g, d, u, os⟩) : wpAny (model P w) A (binaryOp .Add (.int a t) (.int b u)) Q E ⟨h, g, d, tk, os⟩ := PyProof.Rows.add_int (hq _ _)
theorem q_mod (hb : b ≠ 0) (hq : ∀ t u, Q (.int (a.fmod b) t) ⟨h, g, d, u, os⟩) : wpAny (model P w) A (binaryOp .Mod (.int a t) (.int b u)) Q E ⟨h, g, d, tk, os⟩ := PyProof.Rows.mod_int hb (hq _ _)
theorem q_fdiv (hb : b ≠ 0) (hs : b.natAbs < 1000) (hq : ∀ t u, Q (.int (a.fdiv b) t) ⟨h, g, d, u, os⟩) : wpAny (model P w) A (binaryOp .FloorDiv (.int a t) (.int b u)) Q E ⟨h, g, d, tk, os⟩ :=
  AutoIntOps.floordiv_1 (by simpa using hb) (nopylong _ hs) (hq _ _)
theorem q_store {x : PySem.Str} {v : Value} {m : PySem.Str → Option Value} {Q : Unit → Shared → Prop} (hk : env.kindOf x = some .local) (hn : h.Ns env.locals m) (hp : (env.scope.kind == .class || (env.scope.kind == .module && env.locals != env.globals)) = false)
    (hq : ∀ h' u, h'.Ns env.locals (fun y => if y = x then some v else m y) → Heap.SameBut env.locals h h' → Q () ⟨h', g, d, u, os⟩) : wpAny M A (storeName env x v) Q E ⟨h, g, d, tk, os⟩ :=
  wpAny_storeName_local hk hn (fun h' hn' hs' => hq h' _ hn' hs') hp
theorem q_name {x : PySem.Str} {pos : Pos} {v : Value} {m : PySem.Str → Option Value} (hk : env.scope.kind = .function) (hl : env.kindOf x = some .local) (hn : h.Ns env.locals m) (hv : m x = some v) (hd : (x == ("__debug__" : PySem.Str)) = false) (hq : Q v ⟨h, g, d, tk, os⟩) :
    wpAny M A (eval (.Name x pos) env) Q E ⟨h, g, d, tk, os⟩ := wpAny_Name (hd := hd) (wpAny_loadName_local hk hl hn hv hq)
theorem q_list {elts : List Expr} {pos : Pos} (hq : wpAny M A (spliced (backTo pos (starEach elts env))) (fun vs s₁ => vs.length ≤ 1000 ∧ ∃ h1 u, s₁ = ⟨h1, g, d, u, os⟩ ∧ ∀ h2 R, Grow h1 h2 → h1.get? R = none → h1.objs.size ≤ R → h2.get? R = some (lstO vs.toArray 0) → Q (.ref R) ⟨h2, g, d, u, os⟩) E ⟨h, g, d, tk, os⟩) :
    wpAny M A (eval (.List elts pos) env) Q E ⟨h, g, d, tk, os⟩ := by
  refine wpAny_List (wpAny_mono hq (fun vs s₁ hs => ?_) fun _ _ q => q)
  obtain ⟨hl, h1, u, rfl, hq⟩ := hs
  exact ⟨Nat.le_trans hl (by decide +kernel), hq _ _ (Grow.push _ _) (Heap.get?_none_of_le (Nat.le_refl _)) (Nat.le_refl _) (Heap.get?_push_size _ rfl)⟩
theorem q_tuple {elts : List Expr} {k : Nat} {pos : Pos} (hq : wpAny M A (spliced (backTo pos (starEach elts env))) (fun vs s₁ => vs.length ≤ 1000 ∧ ∃ h1 u, s₁ = ⟨h1, g, d, u, os⟩ ∧ ∀ h2 R, Grow h1 h2 → h1.get? R = none → h1.objs.size ≤ R → h2.get? R = some (tupO vs.toArray) → Q (.ref R) ⟨h2, g, d, u, os⟩) E ⟨h, g, d, tk, os⟩) :
    wpAny M A (eval (.Tuple elts k pos) env) Q E ⟨h, g, d, tk, os⟩ := by
  refine wpAny_Tuple (wpAny_mono hq (fun vs s₁ hs => ?_) fun _ _ q => q)
  obtain ⟨hl, h1, u, rfl, hq⟩ := hs
  exact ⟨Nat.le_trans hl (by decide +kernel), hq _ _ (Grow.push _ _) (Heap.get?_none_of_le (Nat.le_refl _)) (Nat.le_refl _) (Heap.get?_push_size _ rfl)⟩
theorem q_item {value slice : Expr} {l : Addr} {items : Array Value} {k : Int} {n : Nat} {x : Value} (hl : h.IsList l items) (hk : k = (n : Int)) (hn : n < 1000000) (hx : items[n]? = some x) (hq : Q x ⟨h, g, d, tk, os⟩)
    (hs : subscripted slice false (.ref l) (.int k u) = operate [.ref l, .int k u] (getItem (.ref l) (.int k u)) := by with_unfolding_all rfl) (hg : ∀ r, letTemporaryGo value (.ref l) r = pure () := by intro _; with_unfolding_all rfl) :
    wpAny (model P w) A (subscriptTail value slice (.ref l) (.int k u)) Q E ⟨h, g, d, tk, os⟩ :=
  item_list hl (by omega) (by omega) (by rw [hk]; simpa using hx) hq hs hg
theorem q_sadd {x y : PySem.Str} (hsz : x.length + y.length ≤ 100000) (hq : ∀ t u, Q (.str (x ++ y) t) ⟨h, g, d, u, os⟩) : wpAny (model P w) A (binaryOp .Add (.str x t) (.str y u)) Q E ⟨h, g, d, tk, os⟩ :=
  PyProof.Rows.add_str (fun t' k => hq t' k) (Nat.le_trans hsz (by decide +kernel))
end
end Mine
end
section
open PySem PySem.W PyProof.Rows PySem.Calls
set_option maxRecDepth 100000
namespace Mine
theorem ot_nocell : ∀ x ∈ (fnScope 4).names, x.2 ≠ .cell := by decide
theorem dueOf_len (x : Thing) (hx : x.ok) : (dueOf x).length ≤ 200 := by
  have l1 := repr_len x hx
  have l2 := ty_len x
  have c1 : (PySem.Str.ofString "all arguments must be bytes, not ").length = 33 := by decide +kernel
  have c2 : (PySem.Str.ofString " (").length = 2 := by decide +kernel
  have c3 : (PySem.Str.ofString ")").length = 1 := by decide +kernel
  have c4 : PySem.Str.empty.length = 0 := rfl
  unfold dueOf
  simp only [nb_len]
  omega
theorem fin5 {h9 : Heap} {k5 sz : Nat} {ts tl : Tok} {li tu : Addr} {a0 a1 a2 a3 a4 : Tok} {zl : Nat} {tk1 tk2 : Tok} (hk51 : k5 < 5) (hsz1 : sz < 100) (hli : h9.get? li = some (lstO #[.int (sz : Int) tk1] zl)) (htu : h9.get? tu = some (tupO #[.int (sz : Int) tk2])) :
    ∃ v x wd tw, (#[Value.none, .int (sz : Int) ts, .str ⟨#[97 + sz % 26]⟩ tl, .ref li, .ref tu] : Array Value)[k5]? = some v ∧
      (#[.str (PySem.Str.ofString "NoneType (None)") a0, .str (T1 sz) a1, .str (T2 ⟨#[97 + sz % 26]⟩) a2, .str (T3 sz) a3, .str (T4 sz) a4] : Array Value)[k5]? = some (.str wd tw) ∧ Is h9 v x ∧ x.ok ∧ x.isB = false ∧ sAll ++ wd = dueOf x := by
  rcases k5 with _ | _ | _ | _ | _ | k5
  · exact ⟨_, .none, _, _, rfl, rfl, trivial, trivial, rfl, due0⟩
  · exact ⟨_, .int sz, _, _, rfl, rfl, rfl, hsz1, rfl, due1 sz⟩
  · exact ⟨_, .str (97 + sz % 26), _, _, rfl, rfl, rfl, ⟨by omega, by omega⟩, rfl, due2 (sz % 26) (Nat.mod_lt _ (by decide))⟩
  · exact ⟨_, .list sz, _, _, rfl, rfl, ⟨_, _, hli⟩, hsz1, rfl, due3 sz⟩
  · exact ⟨_, .tuple sz, _, _, rfl, rfl, ⟨_, _, htu⟩, hsz1, rfl, due4 sz⟩
  · omega
section
variable {w : World} {A : Around} {E : Value → Shared → Prop} {h : Heap} {g : Array GenState} {d : Drawn} {tk : Nat} {os : OsState} {mg mb : PySem.Str → Option Value}
theorem oth_call {n : Int} {t : Tok} {Q : Value → Shared → Prop} (S : Sys mg mb h) (hroom : A.depth < recursionLimit)
    (hq : ∀ h' R v x t2 tk', Grow h h' → h.get? R = none → Is h' v x → x.ok → x.isB = false → h'.get? R = some (lstO #[v, .str (dueOf x) t2] 0) → Q (.ref R) ⟨h', g, d, tk', os⟩) :
    wpAny (model P w) A (call (.ref 34) [.int n t]) Q E ⟨h, g, d, tk, os⟩ := by
  obtain ⟨pm, hot⟩ := S.ot
  refine wpAny_call (codeAny_call_def (fd := otFd pm) (body := fnBody 4) (binds := [(PySem.Str.ofString "number", .int n t)]) hroom hot rfl S.B.lim S.otc rfl (BindsTo.of_eq (by kernel_rfl)) ot_nocell
    (fun x hx => by rw [List.mem_singleton.mp hx]; rfl) ?_)
  intro h1 hn1 k1
  generalize hA1 : A.deeper (callEnv (otFd pm) (Shared.mk h g d tk os).heap.objs.size 34) = A1
  change h1.Ns h.objs.size _ at hn1
  show wpAny _ _ (execs (fnBody 4) (callEnv (otFd pm) h.objs.size 34)) _ _ ⟨h1, g, d, _, os⟩
  -- size
  have ha0 : 0 ≤ (n.fdiv 5).fmod 100 := Int.fmod_nonneg_of_pos _ (by decide)
  have ha1 : (n.fdiv 5).fmod 100 < 100 := Int.fmod_lt_of_pos _ (by decide)
  obtain ⟨sz, hsz⟩ : ∃ sz : Nat, (n.fdiv 5).fmod 100 = (sz : Int) := ⟨_, (Int.toNat_of_nonneg ha0).symm⟩
  have hsz1 : sz < 100 := by omega
  have hb0 : 0 ≤ n.fmod 5 := Int.fmod_nonneg_of_pos _ (by decide)
  have hb1 : n.fmod 5 < 5 := Int.fmod_lt_of_pos _ (by decide)
  obtain ⟨k5, hk5⟩ : ∃ k : Nat, n.fmod 5 = (k : Int) := ⟨_, (Int.toNat_of_nonneg hb0).symm⟩
  have hk51 : k5 < 5 := by omega
  refine wpAny_execs_cons (wpAny_Assign_Name ?_)
  refine wpAny_BinOp (wpAny_BinOp ?_)
  refine q_name rfl rfl hn1 rfl rfl ?_
  refine q_int fun _ _ => ?_
  refine q_fdiv (by decide) (by decide) fun _ _ => ?_
  refine q_int fun _ _ => ?_
  refine q_mod (by decide) fun ts _ => ?_
  rw [hsz]
  refine q_store rfl hn1 rfl fun h2 u2 hn2 hs2 => ?_
  have hneL : ∀ {b o}, h.get? b = some o → b ≠ h.objs.size := fun e => Nat.ne_of_lt (Heap.lt_size e)
  have k2 : Grow h h2 := fun b o e => hs2.extBut b o (hneL e) (k1 b o e)
  have hz2 : h2.objs.size = h1.objs.size := hs2.1
  have hL1 : h.objs.size < h1.objs.size := hn1.lt
  show wpAny _ _ (execs _ _) _ _ _
  -- letter
  refine wpAny_execs_cons (wpAny_Assign_Name ?_)
  refine wpAny_Call_ofName ?_
  refine name_bui S.N (S.B.keeps k2) rfl rfl rfl (by rfl) (S.N.no _ (by decide)) (by decide) (v := .builtin "chr") (by decide +kernel) (by decide) ?_
  refine PyProof.Rows.callWith_builtin1 ?_
  refine spliced_more ?_
  refine wpAny_BinOp ?_
  refine q_int fun _ _ => ?_
  refine wpAny_BinOp ?_
  refine q_name rfl rfl hn2 rfl rfl ?_
  refine q_int fun _ _ => ?_
  refine q_mod (by decide) fun _ _ => ?_
  refine q_add fun _ _ => ?_
  refine spliced_none ?_
  have hc0 : (97 : Int) + (sz : Int).fmod 26 = ((97 + sz % 26 : Nat) : Int) := by
    rw [Int.fmod_eq_emod_of_nonneg _ (by decide)]; omega
  rw [hc0]
  refine PySem.P.chr_of_int (by simp; omega) ?_
  rw [Int.toNat_natCast]
  refine q_store rfl hn2 rfl fun h3 u3 hn3 hs3 => ?_
  have k3 : Grow h h3 := fun b o e => hs3.extBut b o (hneL e) (k2 b o e)
  have hz3 : h3.objs.size = h2.objs.size := hs3.1
  show wpAny _ _ (execs _ _) _ _ _
  -- things
  refine wpAny_execs_cons (wpAny_Assign_Name (q_list ?_))
  refine spliced_more (q_none ?_)
  refine spliced_more (q_name rfl rfl hn3 rfl rfl ?_)
  refine spliced_more (q_name rfl rfl hn3 rfl rfl ?_)
  refine spliced_more (q_list ?_)
  refine spliced_more (q_name rfl rfl hn3 rfl rfl ?_)
  refine spliced_none ⟨by show 1 ≤ 1000; decide, h3, _, rfl, fun h4 li k4 hli0 hliz hli => ?_⟩
  have hn4 := hn3.keeps k4
  refine spliced_more (q_tuple ?_)
  refine spliced_more (q_name rfl rfl hn4 rfl rfl ?_)
  refine spliced_none ⟨by show 1 ≤ 1000; decide, h4, _, rfl, fun h5 tu k5' htu0 htuz htu => ?_⟩
  refine spliced_none ⟨by show 5 ≤ 1000; decide, h5, _, rfl, fun h6 Th k6 hTh0 hThz hTh => ?_⟩
  have hn6 := (hn4.keeps k5').keeps k6
  refine q_store rfl hn6 rfl fun h7 u7 hn7 hs7 => ?_
  have up7 : ∀ {b o}, h6.get? b = some o → b ≠ h.objs.size → h7.get? b = some o := fun e q => hs7.extBut _ _ q e
  have hneN : ∀ {b}, h3.objs.size ≤ b → b ≠ h.objs.size := fun q => by omega
  have k7 : Grow h h7 := fun b o e => up7 (k6 _ _ (k5' _ _ (k4 _ _ (k3 _ _ e)))) (hneL e)
  have hgro4 : h3.objs.size ≤ h4.objs.size := Nat.le_of_lt (Nat.lt_of_le_of_lt hliz (Heap.lt_size hli))
  have hgro5 : h4.objs.size ≤ h5.objs.size := Nat.le_of_lt (Nat.lt_of_le_of_lt htuz (Heap.lt_size htu))
  have hli7 := up7 (k6 _ _ (k5' _ _ hli)) (hneN hliz)
  have htu7 := up7 (k6 _ _ htu) (hneN (by omega))
  have hTh7 := up7 hTh (hneN (by omega))
  show wpAny _ _ (execs _ _) _ _ _
  -- words
  refine wpAny_execs_cons (wpAny_Assign_Name (q_list ?_))
  refine spliced_more (q_str fun _ _ => ?_)
  refine spliced_more (wpAny_BinOp ?_)
  refine q_str fun _ _ => ?_
  refine q_name rfl rfl hn7 rfl rfl ?_
  refine w1_op (by omega) (by omega) fun _ _ => ?_
  refine spliced_more (wpAny_BinOp ?_)
  refine q_str fun _ _ => ?_
  refine q_name rfl rfl hn7 rfl rfl ?_
  refine w2_op (by show 1 ≤ 1000000; decide) fun _ _ => ?_
  refine spliced_more (wpAny_BinOp ?_)
  refine q_str fun _ _ => ?_
  refine q_name rfl rfl hn7 rfl rfl ?_
  refine w3_op (by omega) (by omega) fun _ _ => ?_
  refine spliced_more (wpAny_BinOp ?_)
  refine q_str fun _ _ => ?_
  refine q_name rfl rfl hn7 rfl rfl ?_
  refine w4_op (by omega) (by omega) fun _ _ => ?_
  refine spliced_none ⟨by show 5 ≤ 1000; decide, h7, _, rfl, fun h8 Wd k8 hWd0 hWdz hWd => ?_⟩
  have hn8 := hn7.keeps k8
  refine q_store rfl hn8 rfl fun h9 u9 hn9 hs9 => ?_
  have hL7 : h.objs.size < h7.objs.size := hn7.lt
  have up9 : ∀ {b o}, h8.get? b = some o → b ≠ h.objs.size → h9.get? b = some o := fun e q => hs9.extBut _ _ q e
  have k9 : Grow h h9 := fun b o e => up9 (k8 _ _ (k7 _ _ e)) (hneL e)
  have hli9 := up9 (k8 _ _ hli7) (hneN hliz)
  have htu9 := up9 (k8 _ _ htu7) (hneN (by omega))
  have hTh9 := up9 (k8 _ _ hTh7) (hneN (by omega))
  have hWd9 := up9 hWd (Nat.ne_of_gt (Nat.lt_of_lt_of_le hL7 hWdz))
  show wpAny _ _ (execs _ _) _ _ _
  refine wpAny_execs_cons (wpAny_Return_some (q_list ?_))
  refine spliced_more (Subscript_ ?_)
  refine q_name rfl rfl hn9 rfl rfl ?_
  refine wpAny_BinOp ?_
  refine q_name rfl rfl hn9 rfl rfl ?_
  refine q_int fun _ _ => ?_
  refine q_mod (by decide) fun _ _ => ?_
  obtain ⟨v, x, wd, tw, hv, hw, hIs, hok, hnb, hdue⟩ := fin5 (h9 := h9) (ts := ts) hk51 hsz1 hli9 htu9
  refine q_item ⟨_, hTh9, rfl, _, rfl⟩ hk5 (by omega) hv ?_
  refine spliced_more (wpAny_BinOp ?_)
  refine q_str fun _ _ => ?_
  refine Subscript_ ?_
  refine q_name rfl rfl hn9 rfl rfl ?_
  refine wpAny_BinOp ?_
  refine q_name rfl rfl hn9 rfl rfl ?_
  refine q_int fun _ _ => ?_
  refine q_mod (by decide) fun _ _ => ?_
  refine q_item ⟨_, hWd9, rfl, _, rfl⟩ hk5 (by omega) hw ?_
  have hlen := dueOf_len x hok
  rw [← hdue, nb_len] at hlen
  refine q_sadd (Nat.le_trans hlen (by decide)) fun t9 u9 => ?_
  rw [hdue]
  refine spliced_none ⟨by show 2 ≤ 1000; decide, h9, _, rfl, fun h10 R k10 hR0 hRz hR => ?_⟩
  refine hq h10 R v x t9 _ (fun b o e => k10 _ _ (k9 _ _ e)) ?_ (hIs.keep (KeepS.of_grow k10 : KeepS Nil h9 h10) fun _ _ => id) hok hnb hR
  cases hz : h.get? R with
  | none => rfl
  | some o => rw [k9 _ _ hz] at hR0; cases hR0
end
end Mine
end
section
open PySem PySem.W PyProof.Rows PySem.Calls
set_option maxRecDepth 100000
namespace Mine
abbrev lawQ : PySem.Str := PySem.Str.ofString "law"
abbrev lawEnv (L : Addr) : Env := newEnv lawScope L mainGlobals [] (lawQ ++ ".<locals>.") (some 39) (.ref 38) none builtinsNs
def duePart (x : Thing) : PySem.Str := if x.isB then PySem.Str.ofString "" else dueOf x
/-- a slot: [thing, due] -/
def SlotIs (h : Heap) (sv v : Value) (x : Thing) : Prop := ∃ a n t, sv = .ref a ∧ h.get? a = some (lstO #[v, .str (duePart x) t] n) ∧ Is h v x ∧ x.ok
/-- slots, their things as values, as plain things -/
structure Slots (h : Heap) (sa it : Array Value) (xs : List Thing) : Prop where
  len : sa.size = xs.length
  len' : it.size = xs.length
  is : ∀ (j : Nat) (sv v : Value) (x : Thing), sa[j]? = some sv → it[j]? = some v → xs[j]? = some x → SlotIs h sv v x
theorem Slots.things {h : Heap} {sa it : Array Value} {xs : List Thing} (S : Slots h sa it xs) : Things h it xs := by
  refine ⟨S.len', fun j v x hv hx => ?_, fun x hx => ?_⟩
  · have hj : j < sa.size := by rw [S.len]; exact (List.getElem?_eq_some_iff.mp hx).1
    obtain ⟨a, n, t, _, _, hI, _⟩ := S.is j sa[j] v x (by simp [hj]) hv hx
    exact hI
  · obtain ⟨j, hj⟩ := List.getElem?_of_mem hx
    have hl := (List.getElem?_eq_some_iff.mp hj).1
    have h1 : j < sa.size := by rw [S.len]; exact hl
    have h2 : j < it.size := by rw [S.len']; exact hl
    obtain ⟨a, n, t, _, _, _, ho⟩ := S.is j sa[j] it[j] x (by simp [h1]) (by simp [h2]) hj
    exact ho
/-- what a change of X leaves alone: lists whose content is that of no counter and no five -/
def Safe (X : Addr → Prop) (h : Heap) : Prop := ∀ b o arr n, X b → h.get? b = some o → o = lstO arr n → arr.size = 5 ∨ (arr.size = 2 ∧ ∃ i t, arr[1]? = some (.int i t))
theorem SlotIs.keep {X : Addr → Prop} {h h' : Heap} {sv v : Value} {x : Thing} (s : SlotIs h sv v x) (k : KeepS X h h') (hS : ∀ b arr n, X b → h.get? b = some (lstO arr n) → arr.size = 5 ∨ (arr.size = 2 ∧ ∃ i t, arr[1]? = some (.int i t)))
    (hT : ∀ b arr n, X b → h.get? b ≠ some { cls := .type "tuple", data := .seq arr n }) : SlotIs h' sv v x := by
  obtain ⟨a, n, t, rfl, ha, hI, ho⟩ := s
  have hna : ¬ X a := fun q => by
    rcases hS a _ _ q ha with q | ⟨_, i, u, q⟩
    · simp at q
    · simp at q
  refine ⟨a, n, t, rfl, k.get hna ha (by simp), hI.keep k fun b hb q => ?_, ho⟩
  subst hb
  cases x with
  | list m =>
    obtain ⟨u, z, e⟩ := hI
    rcases hS b _ _ q e with q | ⟨q, _⟩ <;> simp at q
  | tuple m =>
    obtain ⟨u, z, e⟩ := hI
    exact hT b _ _ q e
  | bytes b => exact hI.elim
  | none => exact hI.elim
  | int n => exact hI.elim
  | str c => exact hI.elim
theorem Slots.keep {X : Addr → Prop} {h h' : Heap} {sa it : Array Value} {xs : List Thing} (s : Slots h sa it xs) (k : KeepS X h h') (hS : ∀ b arr n, X b → h.get? b = some (lstO arr n) → arr.size = 5 ∨ (arr.size = 2 ∧ ∃ i t, arr[1]? = some (.int i t)))
    (hT : ∀ b arr n, X b → h.get? b ≠ some { cls := .type "tuple", data := .seq arr n }) : Slots h' sa it xs :=
  ⟨s.len, s.len', fun j sv v x a b c => (s.is j sv v x a b c).keep k hS hT⟩
/-- the addresses of law -/
structure Ad where
  L : Addr
  Tt : Addr
  Ta : Addr
  Tb : Addr
  Fv : Addr
  Wl : Addr
  Rd : Addr
  W0 : Addr
  W1 : Addr
  la : Addr
  lb : Addr
  Fn : Addr
  cl : Addr
def Ad.X (a : Ad) : Addr → Prop := fun b => b = a.Rd ∨ b = a.Fv ∨ b = a.W0 ∨ b = a.W1 ∨ b = a.L ∨ b = 17
/-- the locals that stay -/
structure Lo (a : Ad) (m : PySem.Str → Option Value) : Prop where
  things : m (PySem.Str.ofString "things") = some (.ref a.Tt)
  five : m (PySem.Str.ofString "five") = some (.ref a.Fv)
  wells : m (PySem.Str.ofString "wells") = some (.ref a.Wl)
  read : m (PySem.Str.ofString "read") = some (.ref a.Rd)
  echo : m (PySem.Str.ofString "echo") = some (.ref a.Fn)
structure St (mg mb : PySem.Str → Option Value) (a : Ad) (pl : Value) (sa sb it0 it1 : Array Value) (xs0 xs1 : List Thing) (fa fi : Array Value) (fs : List Thing) (r0 r1 w0 w1 : Nat) (ls : List Env) (h : Heap) : Prop where
  sys : Sys mg mb h
  tt : ∃ n, h.get? a.Tt = some (lstO #[.ref a.Ta, .ref a.Tb] n)
  ta : ∃ n, h.get? a.Ta = some (lstO sa n)
  tb : ∃ n, h.get? a.Tb = some (lstO sb n)
  wl : ∃ n, h.get? a.Wl = some (lstO #[.ref a.W0, .ref a.W1] n)
  s0 : Slots h sa it0 xs0
  s1 : Slots h sb it1 xs1
  fv : ∃ n, h.get? a.Fv = some (lstO fa n)
  s5 : Slots h fa fi fs
  five : fs.length = 5
  rd : ∃ n t u, h.get? a.Rd = some (lstO #[.int (r0 : Int) t, .int (r1 : Int) u] n)
  v0 : Well h a.W0 a.la it0 w0
  v1 : Well h a.W1 a.lb it1 w1
  fn : h.get? a.Fn = some (lamObj a.cl pl)
  fc : CodeOk h a.cl lamQ
  fr : Frs h (lawEnv a.L :: ls)
  bL : nB ≤ a.L
  bF : nB ≤ a.Fv
  bR : nB ≤ a.Rd
  b0 : nB ≤ a.W0
  b1 : nB ≤ a.W1
  ww : a.W0 ≠ a.W1
  Fa : a.Fv ≠ a.Ta
  Fb : a.Fv ≠ a.Tb
  Fla : a.Fv ≠ a.la
  Flb : a.Fv ≠ a.lb
  Ra : a.Rd ≠ a.Ta
  Rb : a.Rd ≠ a.Tb
  Rla : a.Rd ≠ a.la
  Rlb : a.Rd ≠ a.lb
  RF : a.Rd ≠ a.Fv
  z0 : xs0.length ≤ 100
  z1 : xs1.length ≤ 100
  tk : ∃ ps, h.get? 17 = some { cls := .none, data := .fields ps }
end Mine
end
section
open PySem PySem.W PyProof.Rows PySem.Calls
set_option maxRecDepth 100000
namespace Mine
section
variable {mg mb : PySem.Str → Option Value} {a : Ad} {pl : Value} {sa sb it0 it1 fa fi fa' fi' : Array Value} {xs0 xs1 fs fs' : List Thing} {r0 r1 w0 w1 r0' r1' w0' w1' : Nat} {ls : List Env} {h h' : Heap} {m : PySem.Str → Option Value}
theorem St.ns (s : St mg mb a pl sa sb it0 it1 xs0 xs1 fa fi fs r0 r1 w0 w1 ls h) : ∃ o es n, h.get? a.L = some o ∧ o.data = .dict es n := by
  obtain ⟨_, L', o, es, n, hf, _, ho, hd⟩ := s.fr (lawEnv a.L) (List.mem_cons_self ..)
  cases hf
  exact ⟨o, es, n, ho, hd⟩
theorem St.kind (s : St mg mb a pl sa sb it0 it1 xs0 xs1 fa fi fs r0 r1 w0 w1 ls h) {b : Addr} {o : Obj} (hb : h.get? b = some o) (q : a.X b) :
    b = a.Rd ∨ b = a.Fv ∨ (o.cls = .type "list_iterator") ∨ o.cls = .none ∨ ∃ es n, o.data = .dict es n := by
  rcases q with q | q | q | q | q | q
  · exact .inl q
  · exact .inr (.inl q)
  · obtain ⟨o', ho', hc, _⟩ := s.v0.it
    rw [← q, hb] at ho'; cases ho'; exact .inr (.inr (.inl hc))
  · obtain ⟨o', ho', hc, _⟩ := s.v1.it
    rw [← q, hb] at ho'; cases ho'; exact .inr (.inr (.inl hc))
  · obtain ⟨o', es, n, ho', hd⟩ := s.ns
    rw [← q, hb] at ho'; cases ho'; exact .inr (.inr (.inr (.inr ⟨es, n, hd⟩)))
  · obtain ⟨ps, hp⟩ := s.sys.t17
    rw [← q, hb] at hp; cases hp; exact .inr (.inr (.inr (.inl rfl)))
theorem St.lst (s : St mg mb a pl sa sb it0 it1 xs0 xs1 fa fi fs r0 r1 w0 w1 ls h) {b : Addr} {arr : Array Value} {n : Nat} (hb : h.get? b = some (lstO arr n)) (q : a.X b) : b = a.Rd ∨ b = a.Fv := by
  rcases s.kind hb q with q | q | q | q | ⟨es, n, q⟩
  · exact .inl q
  · exact .inr q
  · exact absurd q (by simp)
  · exact absurd q (by simp)
  · cases q
theorem St.hS (s : St mg mb a pl sa sb it0 it1 xs0 xs1 fa fi fs r0 r1 w0 w1 ls h) : ∀ b arr n, a.X b → h.get? b = some (lstO arr n) → arr.size = 5 ∨ (arr.size = 2 ∧ ∃ i t, arr[1]? = some (.int i t)) := by
  intro b arr n q hb
  rcases s.lst hb q with rfl | rfl
  · obtain ⟨n', t, u, hr⟩ := s.rd
    rw [hb] at hr; cases hr
    exact .inr ⟨rfl, _, _, rfl⟩
  · obtain ⟨n', hf⟩ := s.fv
    rw [hb] at hf; cases hf
    exact .inl (by rw [s.s5.len, s.five])
theorem St.other (s : St mg mb a pl sa sb it0 it1 xs0 xs1 fa fi fs r0 r1 w0 w1 ls h) {b : Addr} {o : Obj} (hb : h.get? b = some o) (h1 : o.cls ≠ .type "list") (h2 : o.cls ≠ .type "list_iterator") (h3 : o.cls ≠ .none) (h4 : ∀ es n, o.data ≠ .dict es n) : ¬ a.X b := by
  intro q
  rcases s.kind hb q with rfl | rfl | q | q | ⟨es, n, q⟩
  · obtain ⟨n', t, u, hr⟩ := s.rd
    rw [hb] at hr; cases hr; exact h1 rfl
  · obtain ⟨n', hf⟩ := s.fv
    rw [hb] at hf; cases hf; exact h1 rfl
  · exact h2 q
  · exact h3 q
  · exact h4 es n q
theorem St.hT (s : St mg mb a pl sa sb it0 it1 xs0 xs1 fa fi fs r0 r1 w0 w1 ls h) : ∀ b arr n, a.X b → h.get? b ≠ some { cls := .type "tuple", data := .seq arr n } := by
  intro b arr n q hb
  exact s.other hb (by simp) (by simp) (by simp) (by simp) q
theorem St.two (s : St mg mb a pl sa sb it0 it1 xs0 xs1 fa fi fs r0 r1 w0 w1 ls h) {b u v : Addr} {n : Nat} (hb : h.get? b = some (lstO #[.ref u, .ref v] n)) : ¬ a.X b := by
  intro q
  rcases s.hS b _ _ q hb with q | ⟨_, i, t, q⟩
  · simp at q
  · simp at q
theorem St.step (s : St mg mb a pl sa sb it0 it1 xs0 xs1 fa fi fs r0 r1 w0 w1 ls h) (k : KeepS a.X h h') (hs : Sys mg mb h') (fv : ∃ n, h'.get? a.Fv = some (lstO fa' n)) (s5 : Slots h' fa' fi' fs') (five : fs'.length = 5)
    (rd : ∃ n t u, h'.get? a.Rd = some (lstO #[.int (r0' : Int) t, .int (r1' : Int) u] n)) (v0 : Well h' a.W0 a.la it0 w0') (v1 : Well h' a.W1 a.lb it1 w1') (fr : Frs h' (lawEnv a.L :: ls)) :
    St mg mb a pl sa sb it0 it1 xs0 xs1 fa' fi' fs' r0' r1' w0' w1' ls h' := by
  refine ⟨hs, ?_, ?_, ?_, ?_, s.s0.keep k s.hS s.hT, s.s1.keep k s.hS s.hT, fv, s5, five, rd, v0, v1, ?_, ?_, fr, s.bL, s.bF, s.bR, s.b0, s.b1, s.ww, s.Fa, s.Fb, s.Fla, s.Flb, s.Ra, s.Rb, s.Rla, s.Rlb, s.RF, s.z0, s.z1, hs.t17⟩
  · obtain ⟨n, e⟩ := s.tt; exact ⟨n, k.get (s.two e) e (by simp)⟩
  · obtain ⟨n, e⟩ := s.ta; exact ⟨n, k.get (fun q => (s.lst e q).elim (fun q => s.Ra q.symm) fun q => s.Fa q.symm) e (by simp)⟩
  · obtain ⟨n, e⟩ := s.tb; exact ⟨n, k.get (fun q => (s.lst e q).elim (fun q => s.Rb q.symm) fun q => s.Fb q.symm) e (by simp)⟩
  · obtain ⟨n, e⟩ := s.wl; exact ⟨n, k.get (s.two e) e (by simp)⟩
  · exact k.get (s.other s.fn (by simp [lamObj]) (by simp [lamObj]) (by simp [lamObj]) (by simp [lamObj])) s.fn (by simp [lamObj])
  · obtain ⟨o, vs, t, e, c, dd, _⟩ := id s.fc
    exact s.fc.keep k (s.other e (by rw [c]; decide) (by rw [c]; decide) (by rw [c]; decide) (fun _ _ q => by rw [dd] at q; cases q))
/-- nothing of law's own is changed -/
theorem St.nil (s : St mg mb a pl sa sb it0 it1 xs0 xs1 fa fi fs r0 r1 w0 w1 ls h) (k : KeepS Nil h h') : St mg mb a pl sa sb it0 it1 xs0 xs1 fa fi fs r0 r1 w0 w1 ls h' := by
  refine s.step (k.mono fun _ q => q.elim) (s.sys.keep k Fair.nil) ?_ (s.s5.keep (k.mono (Y := a.X) fun _ q => q.elim) s.hS s.hT) s.five ?_ (s.v0.keep k id id) (s.v1.keep k id id) (s.fr.keep k fun _ _ _ _ => id)
  · obtain ⟨n, e⟩ := s.fv; exact ⟨n, k.get id e (by simp)⟩
  · obtain ⟨n, t, u, e⟩ := s.rd; exact ⟨n, t, u, k.get id e (by simp)⟩
theorem St.loc (s : St mg mb a pl sa sb it0 it1 xs0 xs1 fa fi fs r0 r1 w0 w1 ls h) (k : KeepS (· = a.L) h h') (hn : h'.Ns a.L m) : St mg mb a pl sa sb it0 it1 xs0 xs1 fa fi fs r0 r1 w0 w1 ls h' := by
  obtain ⟨o, es, n, ho, hd⟩ := s.ns
  have neL : ∀ {b arr n'}, h.get? b = some (lstO arr n') → ¬ b = a.L := fun e q => by rw [q, ho] at e; cases e; cases hd
  have fair : Fair (· = a.L) h := fun b hb => ⟨hb ▸ s.bL, fun o' vs ho' _ q => by subst hb; rw [ho] at ho'; cases ho'; rw [hd] at q; cases q⟩
  refine s.step (k.mono fun _ q => .inr (.inr (.inr (.inr (.inl q))))) (s.sys.keep k fair) ?_ (s.s5.keep (k.mono (Y := a.X) fun _ q => .inr (.inr (.inr (.inr (.inl q))))) s.hS s.hT) s.five ?_ ?_ ?_ (s.fr.keepN k hn fun _ _ q => q)
  · obtain ⟨n, e⟩ := s.fv; exact ⟨n, k.get (neL e) e (by simp)⟩
  · obtain ⟨n, t, u, e⟩ := s.rd; exact ⟨n, t, u, k.get (neL e) e (by simp)⟩
  · refine s.v0.keep k (fun q => ?_) fun q => ?_
    · obtain ⟨o', ho', hc, hd'⟩ := s.v0.it
      rw [q, ho] at ho'; cases ho'
      rcases hd' with hd' | ⟨hd', _⟩ <;> (rw [hd'] at hd; cases hd)
    · obtain ⟨o', ho', hc, n', hd'⟩ := s.v0.lst
      rw [q, ho] at ho'; cases ho'; rw [hd'] at hd; cases hd
  · refine s.v1.keep k (fun q => ?_) fun q => ?_
    · obtain ⟨o', ho', hc, hd'⟩ := s.v1.it
      rw [q, ho] at ho'; cases ho'
      rcases hd' with hd' | ⟨hd', _⟩ <;> (rw [hd'] at hd; cases hd)
    · obtain ⟨o', ho', hc, n', hd'⟩ := s.v1.lst
      rw [q, ho] at ho'; cases ho'; rw [hd'] at hd; cases hd
end
end Mine
end
section
open PySem PySem.W PyProof.Rows PySem.Calls
set_option maxRecDepth 100000
namespace Mine
/-- slots with their heads -/
def Heads (h : Heap) (arr vs : Array Value) : Prop := arr.size = vs.size ∧ ∀ (j : Nat) (sv v : Value), arr[j]? = some sv → vs[j]? = some v → ∃ a dd n, sv = .ref a ∧ h.get? a = some (lstO #[v, dd] n)
theorem Slots.heads {h : Heap} {sa it : Array Value} {xs : List Thing} (S : Slots h sa it xs) : Heads h sa it := by
  refine ⟨by rw [S.len, S.len'], fun j sv v hs hv => ?_⟩
  have hj : j < xs.length := by rw [← S.len]; exact (Array.getElem?_eq_some_iff.mp hs).1
  obtain ⟨a, n, t, e, ha, _⟩ := S.is j sv v xs[j] hs hv (by simp)
  exact ⟨a, _, n, e, ha⟩
theorem Heads.keep {X : Addr → Prop} {h h' : Heap} {arr vs : Array Value} (H : Heads h arr vs) (k : KeepS X h h') (hx : ∀ (j : Nat) (b : Addr), arr[j]? = some (Value.ref b) → ¬ X b) : Heads h' arr vs := by
  refine ⟨H.1, fun j sv v hs hv => ?_⟩
  obtain ⟨a, dd, n, rfl, ha⟩ := H.2 j sv v hs hv
  exact ⟨a, dd, n, rfl, k.get (hx j a hs) ha (by simp)⟩
theorem paired_at {α β : Type} {F : α → β → Prop} : ∀ {l₁ : List α} {l₂ : List β}, Paired F l₁ l₂ → ∀ (j : Nat) (x : α), l₁[j]? = some x → ∃ y : β, l₂[j]? = some y ∧ F x y
  | _, _, .nil, j, x, hx => by simp at hx
  | _, _, .cons h t, 0, x, hx => by simp at hx; subst hx; exact ⟨_, rfl, h⟩
  | _, _, .cons h t, j + 1, x, hx => by simp at hx; simpa using paired_at t j x hx
section
variable {w : World} {A : Around} {E : Value → Shared → Prop} {h : Heap} {g : Array GenState} {d : Drawn} {tk : Nat} {os : OsState} {env : Env} {Q : Value → Shared → Prop}
abbrev headsOf (iter : Expr) (scope : Scope) (p1 p2 p3 px pos : Pos) (k : Nat) : Expr := .ListComp (.Subscript (.Name (PySem.Str.ofString "slot") p1) (.Constant (.int 0) k p2) p3) [⟨.Name (PySem.Str.ofString "slot") px, iter, [], 0⟩] scope pos
theorem comp_quiet {scope : Scope} {p1 p2 p3 : Pos} {k : Nat} {I l : Addr} {arr vs : Array Value} {h0 h2 : Heap} {u : Nat} (hx : scope.names.lookup (PySem.Str.ofString "slot") = some .local) (hkind : scope.kind = .function)
    (hH : Heads h0 arr vs) (k02 : Grow h0 h2) (hI : h2.IsListIter I l 0) :
    QuietOnC P w A env scope [] (PySem.Str.ofString "slot") [] (.Subscript (.Name (PySem.Str.ofString "slot") p1) (.Constant (.int 0) k p2) p3) [I] (fun i v => arr[i]? = some v) (fun _ => true)
      (fun sv v => ∃ a dd n, sv = .ref a ∧ h0.get? a = some (lstO #[v, dd] n)) ⟨h2, g, d, u, os⟩ := by
  refine ⟨fun C i v s₃ m₃ E' hC hP hn hv hk htk => wpAny_tests_nil ⟨rfl, s₃.heap, s₃.toks, rfl, fun _ _ e => e⟩, fun C i v s₃ m₃ E' hC hP _ hn hv hk htk => ?_⟩
  obtain ⟨h3, g3, d3, tk3, os3⟩ := s₃
  have hi : i < vs.size := by rw [← hH.1]; exact (Array.getElem?_eq_some_iff.mp hP).1
  obtain ⟨a, dd, n, rfl, ha⟩ := hH.2 i v vs[i] hP (by simp [hi])
  have haI : a ∉ [I] := fun q => by
    have q := List.mem_singleton.mp q
    obtain ⟨o, ho, hc, _⟩ := hI
    rw [← q, k02 _ _ ha] at ho; cases ho; exact absurd hc (by simp)
  have ha3 := hk a _ haI (k02 _ _ ha)
  refine Subscript_ ?_
  refine q_name (by simp [compEnvC, relabel, hkind]) (lookup_relabel_local hx) hn hv rfl ?_
  refine q_int fun _ _ => ?_
  refine q_item (n := 0) ⟨_, ha3, rfl, _, rfl⟩ rfl (by decide) rfl ?_
  exact ⟨⟨a, dd, n, rfl, ha⟩, h3, _, rfl, fun _ _ e => e⟩
theorem comp_vs {h2 : Heap} {arr vs ys : Array Value} {us : List Value} (hH : Heads h2 arr vs) (hl : us.length = arr.size) (hus : ∀ (j : Nat) (v : Value), us[j]? = some v → arr[j]? = some v)
    (hF : Paired (fun sv v => ∃ a dd n, sv = .ref a ∧ h2.get? a = some (lstO #[v, dd] n)) (us.filter fun _ => true) ys.toList) : ys = vs := by
  have hf : us.filter (fun _ => true) = us := by simp
  rw [hf] at hF
  have hlen : ys.size = vs.size := by rw [← hH.1, ← hl, hF.length]; simp
  apply Array.ext hlen
  intro j h1 h2
  have hj : j < us.length := by rw [hl, hH.1]; exact h2
  obtain ⟨y, hy, a, dd, n, e, ha⟩ := paired_at hF j us[j] (by simp)
  have harr := hus j us[j] (by simp)
  obtain ⟨a', dd', n', e', ha'⟩ := hH.2 j us[j] vs[j] harr (by simp)
  rw [e] at e'
  cases e'
  rw [ha] at ha'
  cases ha'
  have : ys.toList[j]? = some ys[j] := by simp
  rw [this] at hy
  exact Option.some.inj hy
theorem comp_heads {iter : Expr} {scope : Scope} {p1 p2 p3 px pos : Pos} {k : Nat} {arr vs : Array Value} (hA : A.handled = none) (H : Heads h arr vs) (hsz : arr.size ≤ 1000) (hfree : ∀ x ∈ scope.names, x.2 ≠ .free) (hcell : ∀ y ∈ scope.names, y.2 ≠ .cell) (hkind : scope.kind = .function)
    (hnames : ∀ y ∈ scope.names, y.2 = .local → scope.names.lookup y.1 = some .local) (hx : scope.names.lookup (PySem.Str.ofString "slot") = some .local) (hs : ∀ x, foldedSetIterable iter env x = pure x)
    (hi : wpAny (model P w) A (eval iter env) (fun v s₁ => ∃ l h1 u, v = .ref l ∧ s₁ = ⟨h1, g, d, u, os⟩ ∧ h1.IsList l arr ∧ Grow h h1 ∧
      ∀ h2 D n u', Grow h1 h2 → h1.get? D = none → h2.get? D = some (lstO vs n) → Q (.ref D) ⟨h2, g, d, u', os⟩) E ⟨h, g, d, tk, os⟩) :
    wpAny (model P w) A (eval (headsOf iter scope p1 p2 p3 px pos k) env) Q E ⟨h, g, d, tk, os⟩ := by
  refine wpAny_ListComp_free (fun _ => true) (fun sv v => ∃ a dd n, sv = .ref a ∧ h.get? a = some (lstO #[v, dd] n)) (cl := []) (closureFor_none hfree) hcell hkind hnames hx (wpAny_mono hi (fun v s₁ h1 => ?_) fun _ _ q => q) hs
  obtain ⟨l, h1, u, rfl, rfl, hl, kh, hq⟩ := h1
  refine wpAny_pyIter_list hl ?_
  have hlI : l ≠ h1.objs.size := by obtain ⟨o, ho, _⟩ := hl; exact Nat.ne_of_lt (Heap.lt_size ho)
  have hI : (h1.push { cls := .type "list_iterator", data := .fields #[.ref l, .int 0 0] }).IsListIter h1.objs.size l 0 := ⟨_, Heap.get?_push_size _ rfl, rfl, rfl⟩
  refine ⟨h1.objs.size, _, _, _, _, _, rfl, Walks.list hA h1.objs.size l hlI arr, Nat.le_trans hsz (by decide +kernel), ⟨hI, hl.push _⟩, fun b hb => ?_, comp_quiet hx hkind H (kh.trans (Grow.push _ _)) hI, fun D h3 tk3 ys us hD hlD hpl hlen hP hF hk => ?_⟩
  · rcases List.mem_cons.mp hb with rfl | hb
    · exact Heap.lt_size (Heap.get?_push_size _ rfl)
    · rw [List.mem_singleton.mp hb]
      obtain ⟨o, ho, _⟩ := hl.push (h := h1) { cls := .type "list_iterator", data := .fields #[.ref l, .int 0 0] }
      exact Heap.lt_size ho
  have e := comp_vs H hlen hP hF
  subst e
  obtain ⟨n, hn⟩ := hpl
  refine hq h3 D n tk3 (fun b o e => hk b o (fun q => ?_) (Heap.get?_push_of_some _ e)) ?_ hn
  · rw [List.mem_singleton.mp q] at e
    exact absurd (Heap.lt_size e) (Nat.lt_irrefl _)
  · cases hz : h1.get? D with
    | none => rfl
    | some o => rw [show (Shared.mk (h1.push { cls := .type "list_iterator", data := .fields #[.ref l, .int 0 0] }) g d u os).heap.get? D = some o from Heap.get?_push_of_some _ hz] at hD; cases hD
end
end Mine
end
section
open PySem PySem.W PyProof.Rows PySem.Calls
set_option maxRecDepth 100000
namespace Mine
def lawTurn : List Stmt := match lawBody with | [_, _, _, _, _, _, .For _ _ b _ _, _] => b | _ => []
def turnS (i : Nat) : Stmt := lawTurn.getD i default
abbrev sOne := PySem.Str.ofString "one"
abbrev sTwo := PySem.Str.ofString "two"
abbrev sEarly := PySem.Str.ofString "early"
abbrev sLate := PySem.Str.ofString "late"
abbrev sEnd := PySem.Str.ofString "end"
def up (x : PySem.Str) (v : Value) (m : PySem.Str → Option Value) : PySem.Str → Option Value := fun y => if y = x then some v else m y
theorem KeepS.loc {h h' : Heap} {L : Addr} (s : Heap.SameBut L h h') : KeepS (· = L) h h' := KeepS.of_sameBut (X := (· = L)) s rfl
theorem list5 {α : Type} {l : List α} (h : l.length = 5) : ∃ a b c d e, l = [a, b, c, d, e] := by
  cases l with
  | nil => cases h
  | cons a l =>
    cases l with
    | nil => cases h
    | cons b l =>
      cases l with
      | nil => cases h
      | cons c l =>
        cases l with
        | nil => cases h
        | cons d l =>
          cases l with
          | nil => cases h
          | cons e l => cases l with
            | nil => exact ⟨a, b, c, d, e, rfl⟩
            | cons f l => simp at h
section
variable {w : World} {A : Around} {E : Value → Shared → Prop} {h : Heap} {g : Array GenState} {d : Drawn} {tk : Nat} {os : OsState} {mg mb m : PySem.Str → Option Value} {a : Ad} {pl : Value} {sa sb it0 it1 fa fi : Array Value} {xs0 xs1 fs : List Thing} {r0 r1 w0 w1 : Nat} {ls : List Env}
theorem t_unpack {Q : Flow → Shared → Prop} (S : St mg mb a pl sa sb it0 it1 xs0 xs1 fa fi fs r0 r1 w0 w1 ls h) (hn : h.Ns a.L m) (lo : Lo a m) (hA : A.handled = none)
    (hq : ∀ h' u f0 f1 f2 f3 f4, fi = #[f0, f1, f2, f3, f4] → KeepS (· = a.L) h h' → St mg mb a pl sa sb it0 it1 xs0 xs1 fa fi fs r0 r1 w0 w1 ls h' → h'.Ns a.L (up sEnd f4 (up sLate f3 (up sEarly f2 (up sTwo f1 (up sOne f0 m))))) → Q .next ⟨h', g, d, u, os⟩) :
    wpAny (model P w) A (exec (turnS 0) (lawEnv a.L)) Q E ⟨h, g, d, tk, os⟩ := by
  refine Assign_Tuple ?_
  have hfa : fa.size = 5 := by rw [S.s5.len, S.five]
  have hfi : fi.size = 5 := by rw [S.s5.len', S.five]
  obtain ⟨nF, hF⟩ := S.fv
  refine comp_heads hA S.s5.heads (by omega) (by decide) (by decide) (by rfl) (by decide) (by rfl) (by intro _; rfl) ?_
  refine q_name rfl rfl hn lo.five rfl ⟨a.Fv, h, _, rfl, rfl, ⟨_, hF, rfl, _, rfl⟩, Grow.refl _, fun h2 D n u2 k2 hD hDl => ?_⟩
  rw [arm_assign_Tuple]
  refine wpAny_bind (wpAny_standAt ?_)
  unfold unpack
  refine wpAny_bind (wpAny_holding ?_)
  show wpAny _ _ (unpackItems (.ref D) 5 none) _ _ _
  rw [← hfi]
  refine kun_itemsOf hA ⟨_, hDl, rfl, _, rfl⟩ fun h3 he3 => ?_
  have k3 : KeepS Nil h2 h3 := (KeepS.refl Nil h2).drop (KeepS.of_extBut (X := (· = h2.objs.size)) he3 rfl) fun b hb _ => by rw [hb]; exact Heap.get?_none_of_le (Nat.le_refl _)
  obtain ⟨f0, f1, f2, f3, f4, hfe⟩ : ∃ f0 f1 f2 f3 f4, fi = #[f0, f1, f2, f3, f4] := by
    obtain ⟨f0, f1, f2, f3, f4, e⟩ := list5 (l := fi.toList) (by simpa using hfi)
    exact ⟨f0, f1, f2, f3, f4, by rw [← e]⟩
  have K3 : KeepS Nil h h3 := (KeepS.of_grow k2).trans k3
  have S3 := S.nil K3
  have hn3 := K3.ns id hn
  rw [show fi.toList = [f0, f1, f2, f3, f4] by rw [hfe]]
  refine wpAny_bind (wpAny_holding (wpAny_assign_Name (q_store (by rfl) hn3 (by rfl) fun h4 u4 hn4 s4 => ?_)))
  refine wpAny_bind (wpAny_holding (wpAny_assign_Name (q_store (by rfl) hn4 (by rfl) fun h5 u5 hn5 s5 => ?_)))
  refine wpAny_bind (wpAny_holding (wpAny_assign_Name (q_store (by rfl) hn5 (by rfl) fun h6 u6 hn6 s6 => ?_)))
  refine wpAny_bind (wpAny_holding (wpAny_assign_Name (q_store (by rfl) hn6 (by rfl) fun h7 u7 hn7 s7 => ?_)))
  refine wpAny_bind (wpAny_holding (wpAny_assign_Name (q_store (by rfl) hn7 (by rfl) fun h8 u8 hn8 s8 => ?_)))
  refine wpAny_pure ?_
  have K8 : KeepS (· = a.L) h3 h8 := ((((KeepS.loc s4).trans (KeepS.loc s5)).trans (KeepS.loc s6)).trans (KeepS.loc s7)).trans (KeepS.loc s8)
  exact hq h8 u8 f0 f1 f2 f3 f4 hfe ((K3.mono fun _ q => q.elim).trans K8) (S3.loc K8 hn8) hn8
end
end Mine
end
section
open PySem PySem.W PyProof.Rows PySem.Calls
set_option maxRecDepth 100000
namespace Mine
section
variable {w : World} {A : Around} {E : Value → Shared → Prop} {h : Heap} {g : Array GenState} {d : Drawn} {tk : Nat} {os : OsState} {mg mb m : PySem.Str → Option Value} {a : Ad} {pl : Value} {sa sb it0 it1 fa fi : Array Value} {xs0 xs1 fs : List Thing} {r0 r1 w0 w1 : Nat} {ls : List Env}
theorem name_glob {M : Model} {env : Env} {x : PySem.Str} {pos : Pos} {v : Value} {Q : Value → Shared → Prop} (B : Base mg mb h) (hk : env.scope.kind = .function) (hg : env.globals = mainGlobals)
    (hx : env.kindOf x = some .globalImplicit) (hv : mg x = some v) (hd : (x == ("__debug__" : PySem.Str)) = false) (hq : Q v ⟨h, g, d, tk, os⟩) :
    wpAny M A (eval (.Name x pos) env) Q E ⟨h, g, d, tk, os⟩ :=
  Name_function_global hk hx (loadGlobal_global (hg ▸ B.glob) hv hq) hd
theorem t_report {Q : Flow → Shared → Prop} {f0 f1 f2 f3 f4 : Value} (S : St mg mb a pl sa sb it0 it1 xs0 xs1 fa fi fs r0 r1 w0 w1 ls h) (hn : h.Ns a.L m) (lo : Lo a m) (hroom : A.depth < recursionLimit)
    (m0 : m sOne = some f0) (m1 : m sTwo = some f1) (m2 : m sEarly = some f2) (m3 : m sLate = some f3) (m4 : m sEnd = some f4)
    (hq : ∀ h' pm L2 Rp t1 t2 nv u, KeepS (· = a.L) h h' → St mg mb a pl sa sb it0 it1 xs0 xs1 fa fi fs r0 r1 w0 w1 ls h' → h'.Ns a.L (up (PySem.Str.ofString "report") (.ref Rp) m) → h'.Ns L2 (fun x => (dbBinds a.Fn a.W0 a.W1 f0 f1 f2 f3 nv f4).reverse.lookup x) →
      h'.get? Rp = some (genO g.size t1 t2) → nB ≤ L2 → h.get? L2 = none → h.get? Rp = none → L2 ≠ a.L → Q .next ⟨h', g.push (.fresh (.func dbBody (dbEnv L2 pm))), d, u, os⟩) :
    wpAny (model P w) A (exec (turnS 1) (lawEnv a.L)) Q E ⟨h, g, d, tk, os⟩ := by
  obtain ⟨nW, hW⟩ := S.wl
  obtain ⟨pm, hdb⟩ := S.sys.db
  have hz : nB ≤ h.objs.size := Nat.le_of_lt (Nat.lt_of_le_of_lt S.bL hn.lt)
  refine wpAny_Assign_Name ?_
  refine wpAny_Call_ofName ?_
  refine name_glob S.sys.B rfl rfl (by rfl) S.sys.N.db rfl ?_
  refine callWith_def (o := dbObj pm) (fd := dbFd pm) rfl ?_
  refine spliced_more (q_name rfl rfl hn lo.echo rfl ?_)
  refine spliced_more (Subscript_ ?_)
  refine q_name rfl rfl hn lo.wells rfl ?_
  refine q_int fun _ _ => ?_
  refine q_item (n := 0) ⟨_, hW, rfl, _, rfl⟩ rfl (by decide) rfl ?_
  refine spliced_more (Subscript_ ?_)
  refine q_name rfl rfl hn lo.wells rfl ?_
  refine q_int fun _ _ => ?_
  refine q_item (n := 1) ⟨_, hW, rfl, _, rfl⟩ rfl (by decide) rfl ?_
  refine spliced_more (q_name rfl rfl hn m0 rfl ?_)
  refine spliced_more (q_name rfl rfl hn m1 rfl ?_)
  refine spliced_more (q_name rfl rfl hn m2 rfl ?_)
  refine spliced_more (q_name rfl rfl hn m3 rfl ?_)
  refine spliced_more (q_int fun _ _ => ?_)
  refine spliced_more (q_name rfl rfl hn m4 rfl ?_)
  refine spliced_none ⟨hdb, ?_⟩
  refine db_call hroom S.sys fun h2 pm2 L2 Rp t1 t2 tk2 k2 hL0 hR0 hLz hLR hn2 hRp => ?_
  have hn2' := hn.keeps k2
  refine q_store (by rfl) hn2' (by rfl) fun h3 u3 hn3 s3 => ?_
  have K2 : KeepS Nil h h2 := .of_grow k2
  have hLL : L2 ≠ a.L := Nat.ne_of_gt (Nat.lt_of_lt_of_le hn.lt hLz)
  have hRL : Rp ≠ a.L := fun q => by
    obtain ⟨o, es, n, ho, hd⟩ := S.ns
    rw [q, ho] at hR0; cases hR0
  exact hq h3 pm2 L2 Rp t1 t2 _ u3 ((K2.mono fun _ q => q.elim).trans (KeepS.loc s3)) ((S.nil K2).loc (KeepS.loc s3) hn3) hn3 (hn2.sameBut s3 hLL) ((s3.2 _ hRL).trans hRp) (Nat.le_trans hz hLz) hL0 hR0 hLL
end
end Mine
end
section
open PySem PySem.W PyProof.Rows PySem.Calls
set_option maxRecDepth 100000
namespace Mine
theorem pick1 (items : Array Value) (r : Nat) (hr : r ≤ items.size) : slicePick items (some (r : Int)) (some ((r : Int) + 1)) none = ((items.toList.drop r).take 1).toArray := by
  have e : sliceBounds (some (r : Int)) (some ((r : Int) + 1)) none items.size = ((r : Int), ((min (r + 1) items.size : Nat) : Int), 1) := by
    simp only [sliceBounds, Option.getD_none, show (1 : Int) > 0 by decide, if_true, if_neg (show ¬ ((r : Int) < 0) by omega), if_neg (show ¬ ((r : Int) + 1 < 0) by omega)]
    congr 1
    · omega
    · congr 1
      omega
  rw [kmk_pick_nat items e]
  congr 1
  by_cases q : r + 1 ≤ items.size
  · rw [Nat.min_eq_left q, show r + 1 - r = 1 by omega]
  · rw [Nat.min_eq_right (by omega)]
    have : items.toList.drop r = [] := List.drop_of_length_le (by simp; omega)
    rw [this]; simp
section
variable {w : World} {A : Around} {E : Value → Shared → Prop} {h : Heap} {g : Array GenState} {d : Drawn} {tk : Nat} {os : OsState} {mg mb m : PySem.Str → Option Value} {a : Ad} {pl : Value} {sa sb it0 it1 fa fi : Array Value} {xs0 xs1 fs : List Thing} {r0 r1 w0 w1 : Nat} {ls : List Env} {env : Env}
theorem assign_heads {iter : Expr} {scope : Scope} {p1 p2 p3 px pos py spos : Pos} {k : Nat} {y : PySem.Str} {arr vs : Array Value} {Q : Flow → Shared → Prop} (hA : A.handled = none) (hn : h.Ns env.locals m) (H : Heads h arr vs) (hsz : arr.size ≤ 1000)
    (hsw : swapsWith (headsOf iter scope p1 p2 p3 px pos k) (some (.Name y py)) spos.line env = pure true) (hfree : ∀ x ∈ scope.names, x.2 ≠ .free) (hcell : ∀ y ∈ scope.names, y.2 ≠ .cell) (hkind : scope.kind = .function)
    (hnames : ∀ y ∈ scope.names, y.2 = .local → scope.names.lookup y.1 = some .local) (hx : scope.names.lookup (PySem.Str.ofString "slot") = some .local) (hy : env.kindOf y = some .local) (hp : (env.scope.kind == .class || (env.scope.kind == .module && env.locals != env.globals)) = false)
    (hs : ∀ x, foldedSetIterable iter env x = pure x)
    (hi : wpAny (model P w) A (eval iter env) (fun v s₁ => ∃ l h1 u, v = .ref l ∧ s₁ = ⟨h1, g, d, u, os⟩ ∧ h1.IsList l arr ∧ Grow h h1 ∧
      ∀ h2 D n u', KeepS (· = env.locals) h1 h2 → h1.get? D = none → h2.get? D = some (lstO vs n) → h2.Ns env.locals (up y (.ref D) m) → Q .next ⟨h2, g, d, u', os⟩) E ⟨h, g, d, tk, os⟩) :
    wpAny (model P w) A (exec (.Assign [.Name y py] (headsOf iter scope p1 p2 p3 px pos k) spos) env) Q E ⟨h, g, d, tk, os⟩ := by
  refine wpAny_Assign_ListComp_free (fun _ => true) (fun sv v => ∃ a dd n, sv = .ref a ∧ h.get? a = some (lstO #[v, dd] n)) (cl := []) hsw (closureFor_none hfree) hcell hkind hnames hx hy hp (wpAny_mono hi (fun v s₁ h1 => ?_) fun _ _ q => q) hs
  obtain ⟨l, h1, u, rfl, rfl, hl, kh, hq⟩ := h1
  refine wpAny_pyIter_list hl ?_
  have hlI : l ≠ h1.objs.size := by obtain ⟨o, ho, _⟩ := hl; exact Nat.ne_of_lt (Heap.lt_size ho)
  have hI : (h1.push { cls := .type "list_iterator", data := .fields #[.ref l, .int 0 0] }).IsListIter h1.objs.size l 0 := ⟨_, Heap.get?_push_size _ rfl, rfl, rfl⟩
  have hn1 := hn.keeps kh
  refine ⟨h1.objs.size, _, _, _, _, _, m, rfl, Walks.list hA h1.objs.size l hlI arr, Nat.le_trans hsz (by decide +kernel), ⟨hI, hl.push _⟩, fun b hb => ?_, fun q => ?_, hn1.push _, comp_quiet hx hkind H (kh.trans (Grow.push _ _)) hI, fun D h3 tk3 ys us hD hlD hpl hlen hP hF hn3 hk => ?_⟩
  · rcases List.mem_cons.mp hb with rfl | hb
    · exact Heap.lt_size (Heap.get?_push_size _ rfl)
    · rw [List.mem_singleton.mp hb]
      obtain ⟨o, ho, _⟩ := hl.push (h := h1) { cls := .type "list_iterator", data := .fields #[.ref l, .int 0 0] }
      exact Heap.lt_size ho
  · have q := List.mem_singleton.mp q
    exact absurd hn1.lt (by rw [q]; exact Nat.lt_irrefl _)
  have e := comp_vs H hlen hP hF
  subst e
  obtain ⟨n, hnl⟩ := hpl
  refine hq h3 D n tk3 (fun b o hb e => ?_) ?_ hnl hn3
  · have := hk b o hb (fun q => by rw [List.mem_singleton.mp q] at e; exact absurd (Heap.lt_size e) (Nat.lt_irrefl _)) (Heap.get?_push_of_some _ e)
    exact ⟨⟨o.slots, this⟩, fun _ => this⟩
  · cases hz : h1.get? D with
    | none => rfl
    | some o => rw [show (Shared.mk (h1.push { cls := .type "list_iterator", data := .fields #[.ref l, .int 0 0] }) g d u os).heap.get? D = some o from Heap.get?_push_of_some _ hz] at hD; cases hD
theorem push2_get {h : Heap} {o o' : Obj} (ho : o'.isFreed = false := by rfl) : ((h.push o).push o').get? (h.objs.size + 1) = some o' := by
  have hz : (h.push o).objs.size = h.objs.size + 1 := Heap.size_push ..
  rw [← hz]
  exact Heap.get?_push_size _ ho
theorem q_slice1 {value slice : Expr} {l : Addr} {items : Array Value} {r : Nat} {t1 t2 : Tok} {Q : Value → Shared → Prop} (hl : h.IsList l items) (hr : r ≤ items.size) (hsz : items.size ≤ 1000)
    (hq : ∀ h2 D, Grow h h2 → h.get? D = none → h2.get? D = some (lstO ((items.toList.drop r).take 1).toArray 0) → Q (.ref D) ⟨h2, g, d, tk, os⟩)
    (hs : ∀ b, subscripted slice false (.ref l) (.ref b) = operate [.ref b, .ref l] (getItem (.ref l) (.ref b)) := by intro _; with_unfolding_all rfl) :
    wpAny (model P w) A (subscriptTail value slice (.ref l) (.ref h.objs.size)) Q E ⟨h.push { cls := .type "slice", data := .fields #[.int (r : Int) t1, .int ((r : Int) + 1) t2, .none] }, g, d, tk, os⟩ := by
  refine kba_turn (value' := .Name lawQ default) (fun _ => rfl) ?_
  refine slice_listK (s := ⟨h, g, d, tk, os⟩) (l := l) (items := items) hl (.int _ _) (.int _ _) ?_ (hs := hs _) (hsz := Nat.le_trans hsz (by decide +kernel))
  rw [pick1 items r hr]
  exact hq _ _ ((Grow.push _ _).trans (Grow.push _ _)) (Heap.get?_none_of_le (Nat.le_succ _)) push2_get
theorem Heads.pick {arr vs : Array Value} (H : Heads h arr vs) (r : Nat) : Heads h ((arr.toList.drop r).take 1).toArray ((vs.toList.drop r).take 1).toArray := by
  refine ⟨by have := H.1; simp; omega, fun j sv v hs hv => ?_⟩
  simp only [List.getElem?_toArray, List.getElem?_take, List.getElem?_drop] at hs hv
  split at hs
  · rename_i hj
    rw [if_pos hj] at hv
    refine H.2 (r + j) sv v (by simpa using hs) (by simpa using hv)
  · cases hs
theorem t_straight {Q : Flow → Shared → Prop} (S : St mg mb a pl sa sb it0 it1 xs0 xs1 fa fi fs r0 r1 w0 w1 ls h) (hn : h.Ns a.L m) (lo : Lo a m) (hA : A.handled = none) (hr : r0 ≤ xs0.length)
    (hq : ∀ h' D n u, KeepS (· = a.L) h h' → h.get? D = none → h'.get? D = some (lstO ((it0.toList.drop r0).take 1).toArray n) → St mg mb a pl sa sb it0 it1 xs0 xs1 fa fi fs r0 r1 w0 w1 ls h' → h'.Ns a.L (up (PySem.Str.ofString "straight") (.ref D) m) → Q .next ⟨h', g, d, u, os⟩) :
    wpAny (model P w) A (exec (turnS 2) (lawEnv a.L)) Q E ⟨h, g, d, tk, os⟩ := by
  obtain ⟨nT, hT⟩ := S.tt
  obtain ⟨nA, hTa⟩ := S.ta
  obtain ⟨nR, tR, uR, hR⟩ := S.rd
  have hsz : sa.size ≤ 100 := by rw [S.s0.len]; exact S.z0
  refine assign_heads hA hn (S.s0.heads.pick r0) (by simp; omega) (by rfl) (by decide) (by decide) (by rfl) (by decide) (by rfl) (by rfl) (by rfl) (by intro _; rfl) ?_
  refine Subscript_ ?_
  refine Subscript_ ?_
  refine q_name rfl rfl hn lo.things rfl ?_
  refine q_int fun _ _ => ?_
  refine q_item (n := 0) ⟨_, hT, rfl, _, rfl⟩ rfl (by decide) rfl ?_
  refine wpAny_Slice ?_
  refine evalPart_some_step (Subscript_ ?_)
  refine q_name rfl rfl hn lo.read rfl ?_
  refine q_int fun _ _ => ?_
  refine q_item (n := 0) ⟨_, hR, rfl, _, rfl⟩ rfl (by decide) rfl ?_
  refine evalPart_some_step (wpAny_BinOp (Subscript_ ?_))
  refine q_name rfl rfl hn lo.read rfl ?_
  refine q_int fun _ _ => ?_
  refine q_item (n := 0) ⟨_, hR, rfl, _, rfl⟩ rfl (by decide) rfl ?_
  refine q_int fun _ _ => ?_
  refine q_add fun _ u6 => ?_
  refine evalPart_none_step ?_
  refine q_slice1 ⟨_, hTa, rfl, _, rfl⟩ (by rw [S.s0.len]; exact hr) (by omega) fun h1 D1 k1 hD1 hD1l => ?_
  refine ⟨_, _, _, rfl, rfl, ⟨_, hD1l, rfl, _, rfl⟩, k1, fun h2 D n u' k2 hD hDl hn2 => ?_⟩
  have K1 : KeepS Nil h h1 := KeepS.of_grow k1
  exact hq h2 D n u' ((K1.mono fun _ q => q.elim).trans k2) (K1.none id hD) hDl ((S.nil K1).loc k2 hn2) hn2
end
end Mine
end
section
open PySem PySem.W PyProof.Rows PySem.Calls PySem.SeqAt
set_option maxRecDepth 100000
namespace Mine
theorem bytes_ne_str (b : Array UInt8) (t : Tok) (x : PySem.Str) (u : Tok) : Gives (Builtin.«bytes.__ne__» ⟨[.bytes b t, .str x u], []⟩) (.val .notImplemented) :=
  .of_wp fun M A E s Q h => by
    obtain ⟨hp, g, d, tk, os⟩ := s
    have f1 := PySem.F.sub_str_bytes
    wp_walk
    exact ⟨_, rfl, h⟩
theorem str_ne_bytes (b : Array UInt8) (t : Tok) (x : PySem.Str) (u : Tok) : Gives (Builtin.«str.__ne__» ⟨[.str x u, .bytes b t], []⟩) (.val .notImplemented) :=
  .of_wp fun M A E s Q h => by
    obtain ⟨hp, g, d, tk, os⟩ := s
    have f1 := PySem.F.sub_bytes_str
    wp_walk
    exact ⟨_, rfl, h⟩
section
variable {A : Around} {s : Shared}
theorem rcNe_bytes_str (b : Array UInt8) (t : Tok) (x : PySem.Str) (u : Tok) : RcNeAt A s (.bytes b t) (.str x u) true := fun prog w E Q h =>
  rc_ne_decline_or (k := false) (typeIs_bytes s b t) (typeIs_str s x u) (by decide) PySem.F.sub_str_bytes FB.slot_bytes_ne PySem.F.slot_str_ne_refl
    (fun _ hq => call_gives FB.slot_bytes_ne (typeIs_bytes s b t) FB.entry_bytes_ne (FB.args_bytes_ne_2 _ _) (bytes_ne_str b t x u) hq)
    (fun _ hq => call_gives PySem.F.slot_str_ne_refl (typeIs_str s x u) PySem.F.entry_str_ne (PySem.F.args_str_ne_2 _ _) (str_ne_bytes b t x u) hq)
    (fun _ hq => wpAny_of_eq (rfl : isSame (.bytes b t) (.str x u) = pure false) hq) (.inl rfl) h
theorem rc_bytes (b c : Array UInt8) (t u : Tok) : RcAt A s (.bytes b t) (.bytes c u) (b.toList == c.toList) := fun prog w E Q h =>
  richCompare_gives (typeIs_bytes s b t) (typeIs_bytes s c u) FB.slot_bytes_eq FB.entry_bytes_eq (FB.args_bytes_eq_2 _ _) (gives_bytes_eq b c t u) (by simp [Made.takes]) h
theorem eq_bytes (b : Array UInt8) (t u : Tok) : EqAt A s (.bytes b t) (.bytes b u) true := fun prog w E Q h => by
  unfold eqBool
  refine wpAny_holding ?_
  refine wpAny_ite_split (fun _ => wpAny_bind (wpAny_rule (wpAny_pure h))) (fun _ => ?_)
  exact wpAny_bind (rc_bytes b b t u prog w E _ (by simp; exact wpAny_truthy_bool h))
/-- no thing is the word over -/
theorem rcNe_over {h : Heap} {g : Array GenState} {d : Drawn} {tk : Nat} {os : OsState} {v : Value} {x : Thing} {u : Tok} (hv : Is h v x) (hu : A.units < cLine) : RcNeAt A ⟨h, g, d, tk, os⟩ v (.str (PySem.Str.ofString "over") u) true := by
  cases x with
  | bytes b => cases v with | bytes b' t => exact rcNe_bytes_str b' t _ u | _ => exact hv.elim
  | none => cases v with | none => exact RcNeAt.none_str _ u | _ => exact hv.elim
  | int n => cases v with | int i t => exact RcNeAt.int_str i t _ u | _ => exact hv.elim
  | str c =>
    cases v with
    | str y t =>
      have : y = ⟨#[c]⟩ := hv
      subst this
      have e : (!((⟨#[c]⟩ : PySem.Str) == PySem.Str.ofString "over")) = true := by
        have : (⟨#[c]⟩ : PySem.Str) ≠ PySem.Str.ofString "over" := fun q => by
          have := congrArg (fun z : PySem.Str => z.cps.size) q
          have h4 : (PySem.Str.ofString "over").cps.size = 4 := by decide +kernel
          simp only [h4] at this
          exact absurd this (by simp)
        simp [this]
      have := RcNeAt.str_str (A := A) (s := ⟨h, g, d, tk, os⟩) (⟨#[c]⟩ : PySem.Str) t (PySem.Str.ofString "over") u
      rw [e] at this
      exact this
    | _ => exact hv.elim
  | list n => cases v with | ref l => (obtain ⟨t, k, e⟩ := hv; exact RcNeAt.list_str _ u ⟨_, e, rfl, _, rfl⟩ hu) | _ => exact hv.elim
  | tuple n => cases v with | ref l => (obtain ⟨t, k, e⟩ := hv; exact RcNeAt.tuple_str _ u ⟨_, e, rfl, _, rfl⟩ hu) | _ => exact hv.elim
end
section
variable {w : World} {A : Around} {E : Value → Shared → Prop} {h : Heap} {g : Array GenState} {d : Drawn} {tk : Nat} {os : OsState} {Q : Value → Shared → Prop}
theorem q_next2 {it dv : Value} {T id : String} (hT : Shared.TypeIs ⟨h, g, d, tk, os⟩ it T) (slot : Slot T "__next__" id) (hq : wpAny (model P w) A.in1 (pyNext it) (fun r s' => Q (r.getD dv) s') E ⟨h, g, d, tk, os⟩) :
    wpAny (model P w) A (call (.builtin "next") [it, dv]) Q E ⟨h, g, d, tk, os⟩ := by
  refine Calls.call_function_entry (by decide +kernel) (by decide +kernel) (entryFor_of_tree (by kernel_rfl) : entryFor table "next" = some Builtin.«next») (by unfold argsOk; kernel_rfl) ?_
  unfold Builtin.«next»
  refine wpAny_bind (wpAny_of_eq (a := [it, dv]) (by first | rfl | kernel_rfl) ?_)
  refine wpAny_bind (wpAny_specialOf (name := PySem.Str.ofString "__next__") hT slot.lookup ?_)
  rw [if_neg (by simp)]
  exact wpAny_bind (wpAny_mono hq (fun r s' hr => wpAny_pure ⟨_, rfl, hr⟩) fun _ _ q => q)
end
end Mine
end
section
open PySem PySem.W PyProof.Rows PySem.Calls PySem.SeqAt
set_option maxRecDepth 100000
namespace Mine
abbrev sOver := PySem.Str.ofString "over"
theorem one_list {us : List Value} {v : Value} (hl : us.length = 1) (h0 : ∀ y, us[0]? = some y → y = v) : us = [v] := by
  rcases us with _ | ⟨y, _ | ⟨z, r⟩⟩
  · simp at hl
  · rw [h0 y rfl]
  · simp at hl
theorem paired_one {v : Value} {b : Bool} {ys : Array Value} (hF : Paired (fun u y : Value => y = u) ([v].filter fun _ => b) ys.toList) : ys = if b then #[v] else #[] := by
  obtain ⟨yl⟩ := ys
  cases b with
  | true =>
    have hF : Paired (fun u y : Value => y = u) [v] yl := hF
    cases hF with
    | cons e t => cases t; rw [e]; rfl
  | false =>
    have hF : Paired (fun u y : Value => y = u) [] yl := hF
    cases hF
    rfl
section
variable {w : World} {A : Around} {E : Value → Shared → Prop} {h : Heap} {g : Array GenState} {d : Drawn} {tk : Nat} {os : OsState} {mg mb m : PySem.Str → Option Value} {a : Ad} {pl : Value} {sa sb it0 it1 fa fi : Array Value} {xs0 xs1 fs : List Thing} {r0 r1 w0 w1 : Nat} {ls : List Env} {env : Env}
theorem q_ne {x y : Value} {k : Bool} {s : Shared} {Q : Bool → Shared → Prop} (hr : RcNeAt A s x y k) (hq : Q k s) : wpAny (model P w) A (compareOp .NotEq x y) (fun c s₃ => wpAny (model P w) A (truthy c) Q E s₃) E s := hr _ _ _ _ (wpAny_truthy_bool hq)
theorem q_eq {x y : Value} {k : Bool} {s : Shared} {Q : Bool → Shared → Prop} (hr : RcAt A s x y k) (hq : Q k s) : wpAny (model P w) A (compareOp .Eq x y) (fun c s₃ => wpAny (model P w) A (truthy c) Q E s₃) E s := hr _ _ _ _ (wpAny_truthy_bool hq)
/-- [thing for thing in [v] if thing != 'over'] -/
theorem comp_over {iter : Expr} {scope : Scope} {p0 p1 p2 p3 px pos : Pos} {k : Nat} {b : Bool} {Q : Value → Shared → Prop} (hA : A.handled = none) (hfree : ∀ x ∈ scope.names, x.2 ≠ .free) (hcell : ∀ y ∈ scope.names, y.2 ≠ .cell) (hkind : scope.kind = .function)
    (hnames : ∀ y ∈ scope.names, y.2 = .local → scope.names.lookup y.1 = some .local) (hx : scope.names.lookup (PySem.Str.ofString "thing") = some .local) (hs : ∀ x, foldedSetIterable iter env x = pure x)
    (hi : wpAny (model P w) A (eval iter env) (fun r s₁ => ∃ l v h1 u, r = .ref l ∧ s₁ = ⟨h1, g, d, u, os⟩ ∧ h1.IsList l #[v] ∧ (∀ (s₃ : Shared) u3, Grow h1 s₃.heap → RcNeAt A s₃ v (.str sOver u3) b) ∧
      ∀ h2 D n u', Grow h1 h2 → h1.get? D = none → h2.get? D = some (lstO (if b then #[v] else #[]) n) → Q (.ref D) ⟨h2, g, d, u', os⟩) E ⟨h, g, d, tk, os⟩) :
    wpAny (model P w) A (eval (.ListComp (.Name (PySem.Str.ofString "thing") p0) [⟨.Name (PySem.Str.ofString "thing") px, iter, [.Compare (.Name (PySem.Str.ofString "thing") p1) [.NotEq] [.Constant (.str sOver) k p2] p3], 0⟩] scope pos) env) Q E ⟨h, g, d, tk, os⟩ := by
  refine wpAny_ListComp_free (fun _ => b) (fun u v => v = u) (cl := []) (closureFor_none hfree) hcell hkind hnames hx (wpAny_mono hi (fun r s₁ h1 => ?_) fun _ _ q => q) hs
  obtain ⟨l, v, h1, u, rfl, rfl, hl, hne, hq⟩ := h1
  refine wpAny_pyIter_list hl ?_
  have hlI : l ≠ h1.objs.size := by obtain ⟨o, ho, _⟩ := hl; exact Nat.ne_of_lt (Heap.lt_size ho)
  have hI : (h1.push { cls := .type "list_iterator", data := .fields #[.ref l, .int 0 0] }).IsListIter h1.objs.size l 0 := ⟨_, Heap.get?_push_size _ rfl, rfl, rfl⟩
  have hold : ∀ {s₃ : Shared}, (∀ b o, b ∉ [h1.objs.size] → (h1.push { cls := .type "list_iterator", data := .fields #[.ref l, .int 0 0] }).get? b = some o → s₃.heap.get? b = some o) → Grow h1 s₃.heap := fun hk b o e =>
    hk b o (fun q => by rw [List.mem_singleton.mp q] at e; exact absurd (Heap.lt_size e) (Nat.lt_irrefl _)) (Heap.get?_push_of_some _ e)
  refine ⟨h1.objs.size, _, _, _, _, _, rfl, Walks.list hA h1.objs.size l hlI #[v], by show 1 ≤ sizeLine; decide +kernel, ⟨hI, hl.push _⟩, fun b hb => ?_, ⟨fun C i y s₃ m₃ E' hC hP hn hv hk htk => ?_, fun C i y s₃ m₃ E' hC hP _ hn hv hk htk => ?_⟩, fun D h3 tk3 ys us hD hlD hpl hlen hP hF hk => ?_⟩
  · rcases List.mem_cons.mp hb with rfl | hb
    · exact Heap.lt_size (Heap.get?_push_size _ rfl)
    · rw [List.mem_singleton.mp hb]
      obtain ⟨o, ho, _⟩ := hl.push (h := h1) { cls := .type "list_iterator", data := .fields #[.ref l, .int 0 0] }
      exact Heap.lt_size ho
  · have hyv : y = v := by
      have hP : (#[v] : Array Value)[i]? = some y := hP
      rcases i with _ | i
      · simpa using hP.symm
      · simp at hP
    subst hyv
    obtain ⟨h3, g3, d3, tk3, os3⟩ := s₃
    refine wpAny_tests_one ?_
    refine wpAny_isTrue_Compare1 ?_
    refine q_name (by simp [compEnvC, relabel, hkind]) (lookup_relabel_local hx) hn hv rfl ?_
    refine q_str fun u3 tk3' => ?_
    refine q_ne (hne _ u3 (hold (s₃ := ⟨h3, g3, d3, tk3', os3⟩) hk)) ?_
    exact ⟨rfl, h3, _, rfl, fun _ _ e => e⟩
  · obtain ⟨h3, g3, d3, tk3, os3⟩ := s₃
    refine q_name (by simp [compEnvC, relabel, hkind]) (lookup_relabel_local hx) hn hv rfl ?_
    exact ⟨rfl, h3, _, rfl, fun _ _ e => e⟩
  · obtain ⟨n, hnl⟩ := hpl
    have hus : us = [v] := one_list hlen fun y hy => by
      have this : (#[v] : Array Value)[0]? = some y := hP 0 y hy
      simpa using this.symm
    have hys : ys = if b then #[v] else #[] := paired_one (hus ▸ hF)
    rw [hys] at hnl
    refine hq h3 D n tk3 (fun b o e => hk b o (fun q => ?_) (Heap.get?_push_of_some _ e)) ?_ hnl
    · rw [List.mem_singleton.mp q] at e
      exact absurd (Heap.lt_size e) (Nat.lt_irrefl _)
    · cases hz : h1.get? D with
      | none => rfl
      | some o => rw [show (Shared.mk (h1.push { cls := .type "list_iterator", data := .fields #[.ref l, .int 0 0] }) g d u os).heap.get? D = some o from Heap.get?_push_of_some _ hz] at hD; cases hD
end
end Mine
end
section
open PySem PySem.W PyProof.Rows PySem.Calls PySem.SeqAt
set_option maxRecDepth 100000
namespace Mine
section
variable {w : World} {A : Around} {E : Value → Shared → Prop} {h h' : Heap} {g : Array GenState} {d : Drawn} {tk : Nat} {os : OsState} {mg mb m : PySem.Str → Option Value} {a : Ad} {pl : Value} {sa sb it0 it1 fa fi : Array Value} {xs0 xs1 fs : List Thing} {r0 r1 w0 w1 w0' : Nat} {ls : List Env} {env : Env}
/-- the first well alone is changed -/
theorem St.well (s : St mg mb a pl sa sb it0 it1 xs0 xs1 fa fi fs r0 r1 w0 w1 ls h) (k : KeepS (· = a.W0) h h') (v0 : Well h' a.W0 a.la it0 w0') : St mg mb a pl sa sb it0 it1 xs0 xs1 fa fi fs r0 r1 w0' w1 ls h' := by
  obtain ⟨o, ho, hc, hd⟩ := s.v0.it
  have neW : ∀ {b ob}, h.get? b = some ob → ob.cls ≠ .type "list_iterator" → ¬ b = a.W0 := fun e hne q => by rw [q, ho] at e; cases e; exact hne hc
  have fair : Fair (· = a.W0) h := Fair.cls ho (by rw [hc]; decide) s.b0
  have kX : KeepS a.X h h' := k.mono fun _ q => .inr (.inr (.inl q))
  refine s.step kX (s.sys.keep k fair) ?_ (s.s5.keep kX s.hS s.hT) s.five ?_ v0 ?_ ?_
  · obtain ⟨n, e⟩ := s.fv; exact ⟨n, k.get (neW e (by simp)) e (by simp)⟩
  · obtain ⟨n, t, u, e⟩ := s.rd; exact ⟨n, t, u, k.get (neW e (by simp)) e (by simp)⟩
  · obtain ⟨ol, hol, hcl, _⟩ := s.v1.lst
    exact s.v1.keep k (Ne.symm s.ww) (neW hol (by rw [hcl]; decide))
  · refine s.fr.keep k fun env he L' hf q => ?_
    exact s.fr.not_mem ho (fun es n q => by rcases hd with hd | ⟨hd, _⟩ <;> (rw [hd] at q; cases q)) env he (q ▸ hf)
theorem t_check {D : Addr} {nD : Nat} {Q : Flow → Shared → Prop} (S : St mg mb a pl sa sb it0 it1 xs0 xs1 fa fi fs r0 r1 r0 w1 ls h) (hn : h.Ns a.L m) (lo : Lo a m) (hA : A.handled = none) (hu : A.units + 10 < cLine) (hr : r0 ≤ xs0.length)
    (hst : m (PySem.Str.ofString "straight") = some (.ref D)) (hD : h.get? D = some (lstO ((it0.toList.drop r0).take 1).toArray nD))
    (hq : ∀ h' u, KeepS (· = a.W0) h h' → St mg mb a pl sa sb it0 it1 xs0 xs1 fa fi fs r0 r1 (min (r0 + 1) xs0.length) w1 ls h' → h'.Ns a.L m → Q .next ⟨h', g, d, u, os⟩) :
    wpAny (model P w) A (exec (turnS 3) (lawEnv a.L)) Q E ⟨h, g, d, tk, os⟩ := by
  obtain ⟨nW, hW⟩ := S.wl
  obtain ⟨oW, hoW, hcW, hdW⟩ := S.v0.it
  have hlen0 := S.s0.len'
  refine wpAny_If ?_
  refine wpAny_isTrue_Compare1 ?_
  -- what the well gives
  have hit : it0.toList.length = xs0.length := by simpa using hlen0
  refine comp_over (b := decide (r0 < xs0.length)) hA (by decide) (by decide) (by rfl) (by decide) (by rfl) (by intro _; rfl) ?_
  refine q_list (spliced_more ?_)
  refine wpAny_Call_ofName ?_
  refine name_bui S.sys.N S.sys.B rfl rfl rfl (by rfl) (S.sys.N.no _ (by decide)) (by decide) (v := .builtin "next") (by decide +kernel) (by decide) ?_
  refine PyProof.Rows.callWith_builtin1 ?_
  refine spliced_more (Subscript_ ?_)
  refine q_name rfl rfl hn lo.wells rfl ?_
  refine q_int fun _ _ => ?_
  refine q_item (n := 0) ⟨_, hW, rfl, _, rfl⟩ rfl (by decide) rfl ?_
  refine spliced_more (q_str fun tO uO => ?_)
  refine spliced_none ?_
  refine q_next2 (S.v0.type) slot_listiter_next ?_
  by_cases hlt : r0 < xs0.length
  · have hi : r0 < it0.size := by omega
    have hx : it0[r0]? = some it0[r0] := by simp [hi]
    refine well_next S.v0 hx fun h1 w1' s1 => ?_
    have K1 : KeepS (· = a.W0) h h1 := KeepS.loc s1
    have S1 := S.well K1 w1'
    have hIs : Is h1 it0[r0] xs0[r0] := (S1.s0.things.is r0 _ _ hx (by simp [hlt]))
    refine spliced_none ⟨by show 1 ≤ 1000; decide, h1, _, rfl, fun h2 l2 k2 hl0 hlz hl2 => ?_⟩
    refine ⟨l2, it0[r0], h2, _, rfl, rfl, ⟨_, hl2, rfl, _, rfl⟩, fun s₃ u3 k3 => ?_, fun h4 D4 n4 u4 k4 hD4 hD4l => ?_⟩
    · obtain ⟨h3, g3, d3, tk3, os3⟩ := s₃
      rw [decide_eq_true hlt]
      exact rcNe_over (hIs.keep (KeepS.of_grow (k2.trans k3) : KeepS Nil h1 h3) fun _ _ => id) (by omega)
    · have K4 : KeepS Nil h1 h4 := .of_grow (k2.trans k4)
      have hn4 : h4.Ns a.L m := K4.ns id (K1.ns (fun q => by rw [q] at hn; exact S.v0.ne_ns hn) hn)
      refine q_name rfl rfl hn4 hst rfl ?_
      have hDW : D ≠ a.W0 := fun q => by rw [q, hoW] at hD; cases hD; exact absurd hcW (by simp)
      have hD4' := K4.get id (K1.get hDW hD (by simp)) (by simp)
      have e : ((it0.toList.drop r0).take 1).toArray = #[it0[r0]] := by
        rw [List.drop_eq_getElem_cons (by simpa using hi)]; simp
      rw [e] at hD4'
      rw [decide_eq_true hlt, if_pos rfl] at hD4l
      refine q_ne (k := false) ?_ ?_
      · have := RcNeAt.lists (A := A) (s := ⟨h4, g, d, u4, os⟩) (e := fun _ => true) ⟨_, hD4l, rfl, _, rfl⟩ ⟨_, hD4', rfl, _, rfl⟩ rfl (by omega) (fun j h1 h2 => by
          have : j = 0 := by simp at h1; omega
          subst this
          exact EqAt.same _)
        simpa using this
      · simp only [Bool.false_eq_true, if_false]
        refine wpAny_execs_nil ?_
        refine hq h4 _ (K1.trans (K4.mono fun _ q => q.elim)) ?_ hn4
        rw [Nat.min_eq_left (by omega)]
        exact S1.nil K4
  · have hi : it0.size ≤ r0 := by omega
    refine well_over (A := A.in1) hA S.v0 (Array.getElem?_eq_none hi) fun h1 w1' s1 => ?_
    have K1 : KeepS (· = a.W0) h h1 := KeepS.of_extBut s1 rfl
    have S1 := S.well K1 w1'
    refine spliced_none ⟨by show 1 ≤ 1000; decide, h1, _, rfl, fun h2 l2 k2 hl0 hlz hl2 => ?_⟩
    refine ⟨l2, .str sOver tO, h2, _, rfl, rfl, ⟨_, hl2, rfl, _, rfl⟩, fun s₃ u3 k3 => ?_, fun h4 D4 n4 u4 k4 hD4 hD4l => ?_⟩
    · rw [decide_eq_false hlt]
      have := RcNeAt.str_str (A := A) (s := s₃) sOver tO sOver u3
      simpa using this
    · have K4 : KeepS Nil h1 h4 := .of_grow (k2.trans k4)
      have hn4 : h4.Ns a.L m := K4.ns id (K1.ns (fun q => by rw [q] at hn; exact S.v0.ne_ns hn) hn)
      refine q_name rfl rfl hn4 hst rfl ?_
      have hDW : D ≠ a.W0 := fun q => by rw [q, hoW] at hD; cases hD; exact absurd hcW (by simp)
      have hD4' := K4.get id (K1.get hDW hD (by simp)) (by simp)
      have e : ((it0.toList.drop r0).take 1).toArray = #[] := by
        rw [List.drop_of_length_le (by simpa using hi)]; rfl
      rw [e] at hD4'
      rw [decide_eq_false hlt] at hD4l
      refine q_ne (k := false) ?_ ?_
      · have := RcNeAt.lists (A := A) (s := ⟨h4, g, d, u4, os⟩) (e := fun _ => true) ⟨_, hD4l, rfl, _, rfl⟩ ⟨_, hD4', rfl, _, rfl⟩ rfl (by omega) (fun j h1 h2 => by simp at h1)
        simpa using this
      · simp only [Bool.false_eq_true, if_false]
        refine wpAny_execs_nil ?_
        refine hq h4 _ (K1.trans (K4.mono fun _ q => q.elim)) ?_ hn4
        rw [Nat.min_eq_right (by omega), show xs0.length = r0 by omega]
        exact S1.nil K4
end
end Mine
end
section
open PySem PySem.W PyProof.Rows PySem.Calls PySem.SeqAt
set_option maxRecDepth 100000
namespace Mine
section
variable {w : World} {A : Around} {E : Value → Shared → Prop} {h h' : Heap} {g : Array GenState} {d : Drawn} {tk : Nat} {os : OsState} {mg mb m : PySem.Str → Option Value} {a : Ad} {pl : Value} {sa sb it0 it1 fa fi : Array Value} {xs0 xs1 fs : List Thing} {r0 r1 w0 w1 r0' r1' : Nat} {ls : List Env} {env : Env} {t u : Tok}
theorem q_set {l : Addr} {items : Array Value} {c n : Nat} {k : Int} {v : Value} {Q : Unit → Shared → Prop} (hl : h.get? l = some (lstO items c)) (hk : k = (n : Int)) (hn : n < items.size) (hz : n < 100000)
    (hq : ∀ h' c', h'.get? l = some (lstO (items.setIfInBounds n v) c') → Heap.SameBut l h h' → Q () ⟨h', g, d, tk, os⟩) : wpAny (model P w) A (setItem (.ref l) (.int k t) v) Q E ⟨h, g, d, tk, os⟩ := by
  subst hk
  refine ki_setAt (n := c) hl (by omega) (by omega) (by omega) ?_
  refine hq _ c ?_ (Heap.SameBut.update ..)
  have := Heap.get?_update_self (Obj.mapSeq (·.setIfInBounds ((n : Int)).toNat v)) hl rfl
  rw [this]
  simp [Obj.mapSeq, lstO]
theorem q_len {l : Addr} {items : Array Value} {Q : Value → Shared → Prop} (hl : h.IsList l items) (hz : items.size < 100000) (hq : ∀ t u, Q (.int (items.size : Int) t) ⟨h, g, d, u, os⟩) : wpAny (model P w) A (call (.builtin "len") [.ref l]) Q E ⟨h, g, d, tk, os⟩ :=
  PyProof.Rows.len_list hl (by omega) (hq _ _)
theorem q_get {l : Addr} {items : Array Value} {k : Int} {n : Nat} {x : Value} {Q : Value → Shared → Prop} (hl : h.IsList l items) (hk : k = (n : Int)) (hn : n < 1000000) (hx : items[n]? = some x) (hq : Q x ⟨h, g, d, tk, os⟩) : wpAny (model P w) A (getItem (.ref l) (.int k u)) Q E ⟨h, g, d, tk, os⟩ :=
  wpAny_getItem_list hl (by omega) (by omega) (by rw [hk]; simpa using hx) hq
theorem q_iadd {x y : Int} {Q : Value → Shared → Prop} (hq : ∀ t u, Q (.int (x + y) t) ⟨h, g, d, u, os⟩) : wpAny (model P w) A (inplaceOp .Add (.int x t) (.int y u)) Q E ⟨h, g, d, tk, os⟩ := PyProof.Rows.iadd_int (hq _ _)
theorem St.neL (s : St mg mb a pl sa sb it0 it1 xs0 xs1 fa fi fs r0 r1 w0 w1 ls h) {b : Addr} {arr : Array Value} {n : Nat} (e : h.get? b = some (lstO arr n)) : b ≠ a.L := fun q => by
  obtain ⟨o, es, n, ho, hd⟩ := s.ns
  rw [q, ho] at e; cases e; cases hd
theorem St.frList (s : St mg mb a pl sa sb it0 it1 xs0 xs1 fa fi fs r0 r1 w0 w1 ls h) {b : Addr} {arr : Array Value} {n : Nat} (e : h.get? b = some (lstO arr n)) (k : KeepS (· = b) h h') : Frs h' (lawEnv a.L :: ls) :=
  s.fr.keep k fun env he L' hf q => s.fr.not_mem e (by simp) env he (q ▸ hf)
theorem St.read (s : St mg mb a pl sa sb it0 it1 xs0 xs1 fa fi fs r0 r1 w0 w1 ls h) (k : KeepS (· = a.Rd) h h') (rd : ∃ n t u, h'.get? a.Rd = some (lstO #[.int (r0' : Int) t, .int (r1' : Int) u] n)) :
    St mg mb a pl sa sb it0 it1 xs0 xs1 fa fi fs r0' r1' w0 w1 ls h' := by
  obtain ⟨n, t, u, e⟩ := s.rd
  have kX : KeepS a.X h h' := k.mono fun _ q => .inl q
  have fair : Fair (· = a.Rd) h := Fair.cls e (by simp) s.bR
  have nW : ∀ {W l it i}, Well h W l it i → ¬ W = a.Rd := fun w q => by
    obtain ⟨o, ho, hc, _⟩ := w.it
    rw [q, e] at ho; cases ho; exact absurd hc (by simp)
  refine s.step kX (s.sys.keep k fair) ?_ (s.s5.keep kX s.hS s.hT) s.five rd (s.v0.keep k (nW s.v0) (Ne.symm s.Rla)) (s.v1.keep k (nW s.v1) (Ne.symm s.Rlb)) (s.frList e k)
  obtain ⟨n', e'⟩ := s.fv
  exact ⟨n', k.get (Ne.symm s.RF) e' (by simp)⟩
theorem t_len {D : Addr} {nD : Nat} {ds : Array Value} {Q : Flow → Shared → Prop} (S : St mg mb a pl sa sb it0 it1 xs0 xs1 fa fi fs r0 r1 w0 w1 ls h) (hn : h.Ns a.L m) (lo : Lo a m)
    (hst : m (PySem.Str.ofString "straight") = some (.ref D)) (hD : h.get? D = some (lstO ds nD)) (hds : ds.size < 1000)
    (hq : ∀ h' u, KeepS (· = a.Rd) h h' → St mg mb a pl sa sb it0 it1 xs0 xs1 fa fi fs (r0 + ds.size) r1 w0 w1 ls h' → h'.Ns a.L m → Q .next ⟨h', g, d, u, os⟩) :
    wpAny (model P w) A (exec (turnS 4) (lawEnv a.L)) Q E ⟨h, g, d, tk, os⟩ := by
  obtain ⟨nR, tR, uR, hR⟩ := S.rd
  refine wpAny_AugAssign_SubscriptAny ?_
  refine q_name rfl rfl hn lo.read rfl ?_
  refine q_int fun _ _ => ?_
  refine q_get (n := 0) ⟨_, hR, rfl, _, rfl⟩ rfl (by decide) rfl ?_
  refine wpAny_Call_ofName ?_
  refine name_bui S.sys.N S.sys.B rfl rfl rfl (by rfl) (S.sys.N.no _ (by decide)) (by decide) (v := .builtin "len") (by decide +kernel) (by decide) ?_
  refine PyProof.Rows.callWith_builtin1 ?_
  refine spliced_more (q_name rfl rfl hn hst rfl ?_)
  refine spliced_none ?_
  refine q_len ⟨_, hD, rfl, _, rfl⟩ (by omega) fun _ _ => ?_
  refine q_iadd fun tn un => ?_
  refine q_set (n := 0) hR rfl (by simp) (by decide) fun h1 c1 h1R s1 => ?_
  have K1 : KeepS (· = a.Rd) h h1 := KeepS.loc s1
  have hLR : ¬ a.L = a.Rd := fun q => S.neL hR q.symm
  refine hq h1 _ K1 (S.read K1 ⟨c1, tn, uR, ?_⟩) (K1.ns hLR hn)
  rw [h1R]
  simp
end
end Mine
end
section
open PySem PySem.W PyProof.Rows PySem.Calls PySem.SeqAt
set_option maxRecDepth 100000
namespace Mine
abbrev sLines := PySem.Str.ofString "lines"
abbrev sDue := PySem.Str.ofString "due"
abbrev sK := PySem.Str.ofString "k"
abbrev sThing := PySem.Str.ofString "thing"
abbrev sE := PySem.Str.ofString ""
/-- the lines of a turn -/
structure Lin (a : Ad) (hb : Heap) (Ln LA LB : Addr) (ra rb : Array Value) (h : Heap) : Prop where
  fn : hb.get? Ln = none
  fa : hb.get? LA = none
  fb : hb.get? LB = none
  ab : LA ≠ LB
  na : Ln ≠ LA
  nb : Ln ≠ LB
  ln : ∃ n, h.get? Ln = some (lstO #[.ref LA, .ref LB] n)
  la : ∃ n, h.get? LA = some (lstO ra n)
  lb : ∃ n, h.get? LB = some (lstO rb n)
section
variable {w : World} {A : Around} {E : Value → Shared → Prop} {h h' : Heap} {g : Array GenState} {d : Drawn} {tk : Nat} {os : OsState} {mg mb m m' : PySem.Str → Option Value} {a : Ad} {pl : Value} {sa sb it0 it1 fa fi ra rb : Array Value} {xs0 xs1 fs : List Thing} {r0 r1 w0 w1 r0' r1' : Nat} {ls : List Env} {env : Env} {t u : Tok} {Ln LA LB : Addr}
theorem Lin.keep {X : Addr → Prop} {hb : Heap} (l : Lin a hb Ln LA LB ra rb h) (k : KeepS X h h') (hx : ∀ b, X b → ∃ o, hb.get? b = some o) : Lin a hb Ln LA LB ra rb h' := by
  have nx : ∀ {b}, hb.get? b = none → ¬ X b := fun hn q => by obtain ⟨o, ho⟩ := hx _ q; rw [hn] at ho; cases ho
  refine ⟨l.fn, l.fa, l.fb, l.ab, l.na, l.nb, ?_, ?_, ?_⟩
  · obtain ⟨n, e⟩ := l.ln; exact ⟨n, k.get (nx l.fn) e (by simp)⟩
  · obtain ⟨n, e⟩ := l.la; exact ⟨n, k.get (nx l.fa) e (by simp)⟩
  · obtain ⟨n, e⟩ := l.lb; exact ⟨n, k.get (nx l.fb) e (by simp)⟩
/-- counters and locals are changed -/
theorem St.cnt (s : St mg mb a pl sa sb it0 it1 xs0 xs1 fa fi fs r0 r1 w0 w1 ls h) (k : KeepS (fun b => b = a.Rd ∨ b = a.L) h h') (rd : ∃ n t u, h'.get? a.Rd = some (lstO #[.int (r0' : Int) t, .int (r1' : Int) u] n)) (hn : h'.Ns a.L m') :
    St mg mb a pl sa sb it0 it1 xs0 xs1 fa fi fs r0' r1' w0 w1 ls h' := by
  obtain ⟨n, t, u, e⟩ := s.rd
  obtain ⟨oL, es, nL, hoL, hdL⟩ := s.ns
  have kX : KeepS a.X h h' := k.mono fun _ q => q.elim .inl fun q => .inr (.inr (.inr (.inr (.inl q))))
  have fair : Fair (fun b => b = a.Rd ∨ b = a.L) h := Fair.or (Fair.cls e (by simp) s.bR) (fun b hb => ⟨hb ▸ s.bL, fun o' vs ho' _ q => by subst hb; rw [hoL] at ho'; cases ho'; rw [hdL] at q; cases q⟩)
  have nW : ∀ {W l it i}, Well h W l it i → ¬ (W = a.Rd ∨ W = a.L) := fun w q => by
    obtain ⟨o, ho, hc, hd⟩ := w.it
    rcases q with q | q
    · rw [q, e] at ho; cases ho; exact absurd hc (by simp)
    · rw [q, hoL] at ho; cases ho; rcases hd with hd | ⟨hd, _⟩ <;> (rw [hd] at hdL; cases hdL)
  have nl : ∀ {W l it i}, Well h W l it i → ¬ l = a.L := fun w q => by
    obtain ⟨o, ho, hc, n', hd⟩ := w.lst
    rw [q, hoL] at ho; cases ho; rw [hd] at hdL; cases hdL
  refine s.step kX (s.sys.keep k fair) ?_ (s.s5.keep kX s.hS s.hT) s.five rd (s.v0.keep k (nW s.v0) (fun q => q.elim (Ne.symm s.Rla) (nl s.v0))) (s.v1.keep k (nW s.v1) (fun q => q.elim (Ne.symm s.Rlb) (nl s.v1))) ?_
  · obtain ⟨n', e'⟩ := s.fv
    exact ⟨n', k.get (fun q => q.elim (Ne.symm s.RF) (s.neL e')) e' (by simp)⟩
  · refine s.fr.keepN' k hn fun env he L' hf q => ?_
    rcases q with q | q
    · exact absurd (q ▸ hf) (s.fr.not_mem e (by simp) env he)
    · exact q
theorem t_lines {rest : List Stmt} {Q : Flow → Shared → Prop} (S : St mg mb a pl sa sb it0 it1 xs0 xs1 fa fi fs r0 r1 w0 w1 ls h) (hn : h.Ns a.L m)
    (hq : ∀ h' u Ln LA LB, KeepS (· = a.L) h h' → St mg mb a pl sa sb it0 it1 xs0 xs1 fa fi fs r0 r1 w0 w1 ls h' → Lin a h Ln LA LB #[] #[] h' → h'.Ns a.L (up sDue (.str sE u) (up sLines (.ref Ln) m)) → ∀ u', wpAny (model P w) A (execs rest (lawEnv a.L)) Q E ⟨h', g, d, u', os⟩) :
    wpAny (model P w) A (execs (turnS 5 :: turnS 6 :: rest) (lawEnv a.L)) Q E ⟨h, g, d, tk, os⟩ := by
  refine wpAny_execs_cons (wpAny_Assign_Name (q_list ?_))
  refine spliced_more (q_list ?_)
  refine spliced_none ⟨by show 0 ≤ 1000; decide, h, _, rfl, fun h1 LA k1 hLA0 hLAz hLA => ?_⟩
  refine spliced_more (q_list ?_)
  refine spliced_none ⟨by show 0 ≤ 1000; decide, h1, _, rfl, fun h2 LB k2 hLB0 hLBz hLB => ?_⟩
  refine spliced_none ⟨by show 2 ≤ 1000; decide, h2, _, rfl, fun h3 Ln k3 hLn0 hLnz hLn => ?_⟩
  have K3 : KeepS Nil h h3 := .of_grow ((k1.trans k2).trans k3)
  have hn3 := K3.ns id hn
  refine q_store (by rfl) hn3 (by rfl) fun h4 u4 hn4 s4 => ?_
  show wpAny _ _ (execs _ _) _ _ _
  refine wpAny_execs_cons (wpAny_Assign_Name (q_str fun t5 u5 => ?_))
  refine q_store (by rfl) hn4 (by rfl) fun h6 u6 hn6 s6 => ?_
  show wpAny _ _ (execs rest _) _ _ _
  have K46 : KeepS (· = a.L) h3 h6 := (KeepS.loc s4).trans (KeepS.loc s6)
  have S3 := S.nil K3
  have e1 : LA ≠ LB := fun q => by rw [q] at hLA; rw [hLA] at hLB0; cases hLB0
  have e2 : Ln ≠ LA := fun q => by rw [q, k2 _ _ hLA] at hLn0; cases hLn0
  have e3 : Ln ≠ LB := fun q => by rw [q, hLB] at hLn0; cases hLn0
  have hLA3 := k3 _ _ (k2 _ _ hLA)
  have hLB3 := k3 _ _ hLB
  have g1 : h.get? LB = none := (KeepS.of_grow k1 : KeepS Nil h h1).none id hLB0
  have g2 : h.get? Ln = none := (KeepS.of_grow (k1.trans k2) : KeepS Nil h h2).none id hLn0
  exact hq h6 t5 Ln LA LB ((K3.mono fun _ q => q.elim).trans K46) (S3.loc K46 hn6)
    ⟨g2, hLA0, g1, e1, e2, e3, ⟨_, K46.get (S3.neL hLn) hLn (by simp)⟩, ⟨_, K46.get (S3.neL hLA3) hLA3 (by simp)⟩, ⟨_, K46.get (S3.neL hLB3) hLB3 (by simp)⟩⟩ hn6 _
end
end Mine
end
section
open PySem PySem.W PyProof.Rows PySem.Calls PySem.SeqAt
set_option maxRecDepth 100000
namespace Mine
def dueStr : Option Thing → PySem.Str
  | none => sE
  | some x => dueOf x
abbrev X4 (a : Ad) (LA LB : Addr) : Addr → Prop := fun b => b = a.Rd ∨ b = a.L ∨ b = LA ∨ b = LB
def forK2 : List Stmt := match turnS 7 with | .For _ _ b _ _ => b | _ => []
def whileS : Stmt := match forK2 with | [x] => x | _ => default
theorem take_push {it : Array Value} {r j : Nat} (hi : r + j < it.size) : ((it.toList.drop r).take j).toArray.push it[r + j] = ((it.toList.drop r).take (j + 1)).toArray := by
  have : (it.toList.drop r)[j]? = some it[r + j] := by rw [List.getElem?_drop]; simp [hi]
  rw [List.take_add_one, this]
  simp
section
variable {w : World} {A : Around} {E : Value → Shared → Prop} {h h' : Heap} {g : Array GenState} {d : Drawn} {tk : Nat} {os : OsState} {mg mb m m' : PySem.Str → Option Value} {a : Ad} {pl : Value} {sa sb it0 it1 fa fi ra rb : Array Value} {xs0 xs1 fs : List Thing} {r0 r1 w0 w1 r0' r1' : Nat} {ls : List Env} {env : Env} {t u : Tok} {Ln LA LB : Addr}
theorem q_lt {x y : Int} {s : Shared} {Q : Bool → Shared → Prop} (hq : Q (decide (x < y)) s) : wpAny (model P w) A (compareOp .Lt (.int x t) (.int y u)) (fun c s₃ => wpAny (model P w) A (truthy c) Q E s₃) E s := PyProof.Rows.lt_int (wpAny_truthy_bool hq)

/-- the while of row 0 -/
theorem t_while0 {hb : Heap} {Ln LA LB : Addr} {due0 : PySem.Str} {q0 q1 : Nat} {Q : Flow → Shared → Prop} (S : St mg mb a pl sa sb it0 it1 xs0 xs1 fa fi fs q0 q1 w0 w1 ls hb) (hA : A.handled = none) (hu : A.units + 10 < cLine) (hr : r0 ≤ xs0.length)
    (hd0 : due0 = sE)
    (kb : KeepS (fun b => b = a.Rd ∨ b = a.L) hb h) (rd : ∃ n t u, h.get? a.Rd = some (lstO #[.int (r0 : Int) t, .int (r1 : Int) u] n)) (hn : h.Ns a.L m) (lo : Lo a m) (hln : m sLines = some (.ref Ln)) (hk : ∃ t, m sK = some (.int 0 t)) (hdue : ∃ t, m sDue = some (.str due0 t)) (l : Lin a hb Ln LA LB #[] rb h)
    (hq : ∀ h' m' u, KeepS (fun b => b = a.Rd ∨ b = a.L) hb h' → KeepS (X4 a LA LB) h h' → (∃ n t u, h'.get? a.Rd = some (lstO #[.int ((r0 + (scan (xs0.drop r0)).1 : Nat) : Int) t, .int (r1 : Int) u] n)) → h'.Ns a.L m' → Lo a m' → (∀ y, y ≠ sThing → y ≠ sDue → m' y = m y) →
      (∃ t, m' sDue = some (.str (dueStr (scan (xs0.drop r0)).2) t)) → Lin a hb Ln LA LB ((it0.toList.drop r0).take (scan (xs0.drop r0)).1).toArray rb h' → Q .next ⟨h', g, d, u, os⟩) :
    wpAny (model P w) A (exec whileS (lawEnv a.L)) Q E ⟨h, g, d, tk, os⟩ := by
  have hlen := S.s0.len
  have hlen' := S.s0.len'
  have hz := S.z0
  refine wpAny_While ?_
  obtain ⟨I0, hI0⟩ : ∃ I : Nat → Shared → Prop, ∀ n s, I n s ↔ (∃ h' m' u j due, s = ⟨h', g, d, u, os⟩ ∧ n + (r0 + j) = xs0.length + 1 ∧ r0 + j ≤ xs0.length ∧ KeepS (fun b => b = a.Rd ∨ b = a.L) hb h' ∧ KeepS (X4 a LA LB) h h' ∧ (∃ n t u, h'.get? a.Rd = some (lstO #[.int ((r0 + j : Nat) : Int) t, .int (r1 : Int) u] n)) ∧ h'.Ns a.L m' ∧ Lo a m' ∧ (∀ y, y ≠ sThing → y ≠ sDue → m' y = m y) ∧
    (∃ t, m' sDue = some (.str due t)) ∧ Lin a hb Ln LA LB ((it0.toList.drop r0).take j).toArray rb h' ∧ ((due = sE ∧ ∀ x ∈ (xs0.drop r0).take j, x.isB = true) ∨ ∃ x, x.ok ∧ scan (xs0.drop r0) = (j, some x) ∧ due = dueOf x)) := ⟨_, fun _ _ => Iff.rfl⟩
  refine codeAny_whileLoop (I := I0) ?_ (xs0.length + 1 - r0) ((hI0 _ _).mpr ⟨h, m, tk, 0, due0, rfl, by omega, by omega, kb, KeepS.refl _ _, rd, hn, lo, fun _ _ _ => rfl, hdue, ?_, .inl ⟨hd0, fun x hx => by simp at hx⟩⟩)
  · rintro n s hIn
    obtain ⟨h1, m1, u1, j, due, rfl, hnj, hj, k1, kh1, rd1, hn1, lo1, hm1, ⟨td, hdue1⟩, l1, hcase⟩ := (hI0 n s).mp hIn
    obtain ⟨tk0, hk0⟩ := hk
    have hk1 : m1 sK = some (.int 0 tk0) := (hm1 sK (by decide) (by decide)).trans hk0
    have hln1 : m1 sLines = some (.ref Ln) := (hm1 sLines (by decide) (by decide)).trans hln
    have S1 := S.cnt k1 rd1 hn1
    obtain ⟨nT, hT⟩ := S1.tt
    obtain ⟨nA, hTa⟩ := S1.ta
    obtain ⟨nR, tR, uR, hR⟩ := rd1
    refine isTrue_and ?_
    refine wpAny_isTrue_Compare1 ?_
    refine q_name rfl rfl hn1 hdue1 rfl ?_
    refine q_str fun te ue => ?_
    refine q_eq (RcAt.str_str due td sE te) ?_
    rcases hcase with ⟨hdu, hall⟩ | ⟨x, hok, hsc, hdu⟩
    · -- still looking
      rw [hdu, beq_self_eq_true, if_pos rfl]
      refine isTrue_and ?_
      refine wpAny_isTrue_Compare1 ?_
      refine Subscript_ ?_
      refine q_name rfl rfl hn1 lo1.read rfl ?_
      refine q_name rfl rfl hn1 hk1 rfl ?_
      refine q_item (n := 0) ⟨_, hR, rfl, _, rfl⟩ rfl (by decide) rfl ?_
      refine wpAny_Call_ofName ?_
      refine name_bui S1.sys.N S1.sys.B rfl rfl rfl (by rfl) (S1.sys.N.no _ (by decide)) (by decide) (v := .builtin "len") (by decide +kernel) (by decide) ?_
      refine PyProof.Rows.callWith_builtin1 ?_
      refine spliced_more (Subscript_ ?_)
      refine q_name rfl rfl hn1 lo1.things rfl ?_
      refine q_name rfl rfl hn1 hk1 rfl ?_
      refine q_item (n := 0) ⟨_, hT, rfl, _, rfl⟩ rfl (by decide) rfl ?_
      refine spliced_none ?_
      refine q_len ⟨_, hTa, rfl, _, rfl⟩ (by omega) fun tn un => ?_
      refine q_lt ?_
      by_cases hlt : r0 + j < xs0.length
      · rw [decide_eq_true (by omega), if_pos rfl]
        refine isTrue_and_nil ?_
        rw [if_pos rfl]
        -- thing, due = ...
        have hs1 : r0 + j < sa.size := by omega
        have hi1 : r0 + j < it0.size := by omega
        obtain ⟨sA, nS, tS, hsv, hslot, hIs, hok⟩ := S1.s0.is (r0 + j) sa[r0 + j] it0[r0 + j] xs0[r0 + j] (by simp [hs1]) (by simp [hi1]) (by simp [hlt])
        refine wpAny_execs_cons (Assign_Tuple ?_)
        refine Subscript_ ?_
        refine Subscript_ ?_
        refine q_name rfl rfl hn1 lo1.things rfl ?_
        refine q_name rfl rfl hn1 hk1 rfl ?_
        refine q_item (n := 0) ⟨_, hT, rfl, _, rfl⟩ rfl (by decide) rfl ?_
        refine Subscript_ ?_
        refine q_name rfl rfl hn1 lo1.read rfl ?_
        refine q_name rfl rfl hn1 hk1 rfl ?_
        refine q_item (n := 0) ⟨_, hR, rfl, _, rfl⟩ rfl (by decide) rfl ?_
        refine kba_turn (value' := .Name lawQ default) (fun _ => rfl) ?_
        refine q_item (n := r0 + j) (x := .ref sA) ⟨_, hTa, rfl, _, rfl⟩ (by push_cast; rfl) (by omega) (by rw [← hsv]; simp [hs1]) ?_
        rw [arm_assign_Tuple]
        refine wpAny_bind (wpAny_standAt ?_)
        unfold unpack
        refine wpAny_bind (wpAny_holding ?_)
        show wpAny _ _ (unpackItems (.ref sA) (#[it0[r0 + j], Value.str (duePart xs0[r0 + j]) tS] : Array Value).size none) _ _ _
        refine kun_itemsOf hA ⟨_, hslot, rfl, _, rfl⟩ fun h2 he2 => ?_
        have k2 : KeepS Nil h1 h2 := (KeepS.refl Nil h1).drop (KeepS.of_extBut (X := (· = h1.objs.size)) he2 rfl) fun b hb _ => by rw [hb]; exact Heap.get?_none_of_le (Nat.le_refl _)
        have hn2 := k2.ns id hn1
        show wpAny _ _ (assignInOrder _ [_, _]) _ _ _
        refine wpAny_bind (wpAny_holding (wpAny_assign_Name (q_store (by rfl) hn2 (by rfl) fun h3 u3 hn3 s3 => ?_)))
        refine wpAny_bind (wpAny_holding (wpAny_assign_Name (q_store (by rfl) hn3 (by rfl) fun h4 u4 hn4 s4 => ?_)))
        refine wpAny_pure ?_
        have K4 : KeepS (· = a.L) h1 h4 := (k2.mono fun _ q => q.elim).trans ((KeepS.loc s3).trans (KeepS.loc s4))
        have hLex : ∀ b, b = a.L → ∃ o, hb.get? b = some o := fun b q => by
          obtain ⟨o, _, _, ho, _⟩ := S.ns
          exact ⟨o, q ▸ ho⟩
        have l4 := l1.keep K4 hLex
        show wpAny _ _ (execs _ _) _ _ _
        -- append
        obtain ⟨nL, hL4⟩ := l4.ln
        obtain ⟨nA4, hA4⟩ := l4.la
        refine wpAny_execs_cons (wpAny_Expr_any ?_)
        refine wpAny_Call_append (by rfl) (by rfl) (by rfl) (by rfl) ?_
        refine Subscript_ ?_
        refine q_name rfl rfl hn4 hln1 rfl ?_
        refine q_name rfl rfl hn4 hk1 rfl ?_
        refine q_item (n := 0) ⟨_, hL4, rfl, _, rfl⟩ rfl (by decide) rfl ⟨LA, _, rfl, ⟨_, _, hA4, rfl, rfl, rfl⟩, ?_⟩
        refine q_name rfl rfl hn4 rfl rfl ?_
        refine wpAny_list_append_plain ⟨_, hA4⟩ (fun h5 hA5 s5 => ?_) (Nat.le_trans (show _ ≤ 100 by simp; omega) (by decide +kernel))
        have K5 : KeepS (· = LA) h4 h5 := KeepS.loc s5
        have nLA : ∀ {b o}, hb.get? b = some o → b ≠ LA := fun e q => by rw [q, l.fa] at e; cases e
        obtain ⟨oL, esL, nnL, hoL, hdL⟩ := S.ns
        have hn5 := K5.ns (fun q => nLA hoL q) hn4
        obtain ⟨nR0, tR0, uR0, hR0⟩ := S.rd
        have hRL : a.Rd ≠ a.L := S.neL hR0
        have hR5 := K5.get (nLA hR0) (K4.get hRL hR (by simp)) (by simp)
        show wpAny _ _ (execs _ _) _ _ _
        -- read[k] += 1
        refine wpAny_execs_cons (wpAny_AugAssign_SubscriptAny ?_)
        refine q_name rfl rfl hn5 lo1.read rfl ?_
        refine q_name rfl rfl hn5 hk1 rfl ?_
        refine q_get (n := 0) ⟨_, hR5, rfl, _, rfl⟩ rfl (by decide) rfl ?_
        refine q_int fun _ _ => ?_
        refine q_iadd fun tn' un' => ?_
        refine q_set (n := 0) hR5 rfl (by simp) (by decide) fun h6 c6 h6R s6 => ?_
        refine wpAny_execs_nil ?_
        have K6 : KeepS (· = a.Rd) h5 h6 := KeepS.loc s6
        have hn6 := K6.ns (Ne.symm hRL) hn5
        have kb6 : KeepS (fun b => b = a.Rd ∨ b = a.L) hb h6 := ((k1.trans (K4.mono fun _ q => .inr q)).drop K5 (fun b hb _ => hb ▸ l.fa)).trans (K6.mono fun _ q => .inl q)
        have kh6 : KeepS (X4 a LA LB) h h6 := ((kh1.trans (K4.mono fun _ q => .inr (.inl q))).trans (K5.mono fun _ q => .inr (.inr (.inl q)))).trans (K6.mono fun _ q => .inl q)
        refine ⟨n - 1, by omega, (hI0 _ _).mpr ⟨h6, _, un', j + 1, duePart xs0[r0 + j], rfl, by omega, by omega, kb6, kh6, ⟨c6, ?_⟩, hn6, ⟨lo1.things, lo1.five, lo1.wells, lo1.read, lo1.echo⟩, fun y h1 h2 => ?_, ⟨_, rfl⟩, ?_, ?_⟩⟩
        · rw [h6R]
          refine ⟨tn', uR, ?_⟩
          simp
          try omega
        · rw [if_neg h2, if_neg h1]; exact hm1 y h1 h2
        · have l5 : Lin a hb Ln LA LB ((it0.toList.drop r0).take (j + 1)).toArray rb h5 := by
            refine ⟨l4.fn, l4.fa, l4.fb, l4.ab, l4.na, l4.nb, ?_, ?_, ?_⟩
            · exact ⟨_, K5.get l4.na hL4 (by simp)⟩
            · obtain ⟨n5, e5⟩ := hA5
              refine ⟨n5, ?_⟩
              rw [e5, take_push hi1]
            · obtain ⟨n5, e5⟩ := l4.lb
              exact ⟨n5, K5.get (Ne.symm l4.ab) e5 (by simp)⟩
          exact l5.keep K6 fun b q => ⟨_, q ▸ hR0⟩
        · have htk : (xs0.drop r0)[j]? = some xs0[r0 + j] := by rw [List.getElem?_drop, List.getElem?_eq_getElem hlt]
          cases hb2 : (xs0[r0 + j]).isB with
          | true =>
            refine .inl ⟨by simp [duePart, hb2], fun x hx => ?_⟩
            rw [List.take_add_one, htk] at hx
            rcases List.mem_append.mp hx with hx | hx
            · exact hall x hx
            · simp at hx; rw [hx]; exact hb2
          | false => exact .inr ⟨_, hok, scan_step hall htk hb2, by simp [duePart, hb2]⟩
      · rw [decide_eq_false (by omega), if_neg (by simp)]
        simp only [Bool.false_eq_true, if_false]
        refine wpAny_execs_nil ?_
        have hj2 : (xs0.drop r0).take j = xs0.drop r0 := List.take_of_length_le (by simp; omega)
        rw [hj2] at hall
        have hsc := scan_all hall
        refine hq h1 m1 _ k1 kh1 ⟨nR, tR, uR, ?_⟩ hn1 lo1 hm1 ⟨td, ?_⟩ ?_
        · rw [hsc]; simp only [List.length_drop]; rw [hR]; simp; omega
        · rw [hsc, hdue1, hdu]; rfl
        · rw [hsc]
          have : (xs0.drop r0).length = j := by simp; omega
          rw [this]; exact l1
    · have hne : (due == sE) = false := by
        rw [hdu]
        have : dueOf x ≠ sE := fun q => by
          have := congrArg PySem.Str.length q
          have hz : sE.length = 0 := by decide +kernel
          rw [hz] at this
          have c1 : (PySem.Str.ofString "all arguments must be bytes, not ").length = 33 := by decide +kernel
          unfold dueOf at this
          simp only [nb_len] at this
          omega
        simp [this]
      rw [hne, if_neg (by simp)]
      simp only [Bool.false_eq_true, if_false]
      refine wpAny_execs_nil ?_
      refine hq h1 m1 _ k1 kh1 ⟨nR, tR, uR, ?_⟩ hn1 lo1 hm1 ⟨td, ?_⟩ ?_
      · rw [hsc]; exact hR
      · rw [hsc, hdue1, hdu]; rfl
      · rw [hsc]; exact l1
  · simpa using l

/-- the while of row 1 -/
theorem t_while1 {hb : Heap} {Ln LA LB : Addr} {due0 : PySem.Str} {q0 q1 : Nat} {Q : Flow → Shared → Prop} (S : St mg mb a pl sa sb it0 it1 xs0 xs1 fa fi fs q0 q1 w0 w1 ls hb) (hA : A.handled = none) (hu : A.units + 10 < cLine) (hr : r1 ≤ xs1.length)
    (hd0 : due0 = sE)
    (kb : KeepS (fun b => b = a.Rd ∨ b = a.L) hb h) (rd : ∃ n t u, h.get? a.Rd = some (lstO #[.int (r0 : Int) t, .int (r1 : Int) u] n)) (hn : h.Ns a.L m) (lo : Lo a m) (hln : m sLines = some (.ref Ln)) (hk : ∃ t, m sK = some (.int 1 t)) (hdue : ∃ t, m sDue = some (.str due0 t)) (l : Lin a hb Ln LA LB ra #[] h)
    (hq : ∀ h' m' u, KeepS (fun b => b = a.Rd ∨ b = a.L) hb h' → KeepS (X4 a LA LB) h h' → (∃ n t u, h'.get? a.Rd = some (lstO #[.int (r0 : Int) t, .int ((r1 + (scan (xs1.drop r1)).1 : Nat) : Int) u] n)) → h'.Ns a.L m' → Lo a m' → (∀ y, y ≠ sThing → y ≠ sDue → m' y = m y) →
      (∃ t, m' sDue = some (.str (dueStr (scan (xs1.drop r1)).2) t)) → Lin a hb Ln LA LB ra ((it1.toList.drop r1).take (scan (xs1.drop r1)).1).toArray h' → Q .next ⟨h', g, d, u, os⟩) :
    wpAny (model P w) A (exec whileS (lawEnv a.L)) Q E ⟨h, g, d, tk, os⟩ := by
  have hlen := S.s1.len
  have hlen' := S.s1.len'
  have hz := S.z1
  refine wpAny_While ?_
  obtain ⟨I0, hI0⟩ : ∃ I : Nat → Shared → Prop, ∀ n s, I n s ↔ (∃ h' m' u j due, s = ⟨h', g, d, u, os⟩ ∧ n + (r1 + j) = xs1.length + 1 ∧ r1 + j ≤ xs1.length ∧ KeepS (fun b => b = a.Rd ∨ b = a.L) hb h' ∧ KeepS (X4 a LA LB) h h' ∧ (∃ n t u, h'.get? a.Rd = some (lstO #[.int (r0 : Int) t, .int ((r1 + j : Nat) : Int) u] n)) ∧ h'.Ns a.L m' ∧ Lo a m' ∧ (∀ y, y ≠ sThing → y ≠ sDue → m' y = m y) ∧
    (∃ t, m' sDue = some (.str due t)) ∧ Lin a hb Ln LA LB ra ((it1.toList.drop r1).take j).toArray h' ∧ ((due = sE ∧ ∀ x ∈ (xs1.drop r1).take j, x.isB = true) ∨ ∃ x, x.ok ∧ scan (xs1.drop r1) = (j, some x) ∧ due = dueOf x)) := ⟨_, fun _ _ => Iff.rfl⟩
  refine codeAny_whileLoop (I := I0) ?_ (xs1.length + 1 - r1) ((hI0 _ _).mpr ⟨h, m, tk, 0, due0, rfl, by omega, by omega, kb, KeepS.refl _ _, rd, hn, lo, fun _ _ _ => rfl, hdue, ?_, .inl ⟨hd0, fun x hx => by simp at hx⟩⟩)
  · rintro n s hIn
    obtain ⟨h1, m1, u1, j, due, rfl, hnj, hj, k1, kh1, rd1, hn1, lo1, hm1, ⟨td, hdue1⟩, l1, hcase⟩ := (hI0 n s).mp hIn
    obtain ⟨tk0, hk0⟩ := hk
    have hk1 : m1 sK = some (.int 1 tk0) := (hm1 sK (by decide) (by decide)).trans hk0
    have hln1 : m1 sLines = some (.ref Ln) := (hm1 sLines (by decide) (by decide)).trans hln
    have S1 := S.cnt k1 rd1 hn1
    obtain ⟨nT, hT⟩ := S1.tt
    obtain ⟨nA, hTa⟩ := S1.tb
    obtain ⟨nR, tR, uR, hR⟩ := rd1
    refine isTrue_and ?_
    refine wpAny_isTrue_Compare1 ?_
    refine q_name rfl rfl hn1 hdue1 rfl ?_
    refine q_str fun te ue => ?_
    refine q_eq (RcAt.str_str due td sE te) ?_
    rcases hcase with ⟨hdu, hall⟩ | ⟨x, hok, hsc, hdu⟩
    · -- still looking
      rw [hdu, beq_self_eq_true, if_pos rfl]
      refine isTrue_and ?_
      refine wpAny_isTrue_Compare1 ?_
      refine Subscript_ ?_
      refine q_name rfl rfl hn1 lo1.read rfl ?_
      refine q_name rfl rfl hn1 hk1 rfl ?_
      refine q_item (n := 1) ⟨_, hR, rfl, _, rfl⟩ rfl (by decide) rfl ?_
      refine wpAny_Call_ofName ?_
      refine name_bui S1.sys.N S1.sys.B rfl rfl rfl (by rfl) (S1.sys.N.no _ (by decide)) (by decide) (v := .builtin "len") (by decide +kernel) (by decide) ?_
      refine PyProof.Rows.callWith_builtin1 ?_
      refine spliced_more (Subscript_ ?_)
      refine q_name rfl rfl hn1 lo1.things rfl ?_
      refine q_name rfl rfl hn1 hk1 rfl ?_
      refine q_item (n := 1) ⟨_, hT, rfl, _, rfl⟩ rfl (by decide) rfl ?_
      refine spliced_none ?_
      refine q_len ⟨_, hTa, rfl, _, rfl⟩ (by omega) fun tn un => ?_
      refine q_lt ?_
      by_cases hlt : r1 + j < xs1.length
      · rw [decide_eq_true (by omega), if_pos rfl]
        refine isTrue_and_nil ?_
        rw [if_pos rfl]
        -- thing, due = ...
        have hs1 : r1 + j < sb.size := by omega
        have hi1 : r1 + j < it1.size := by omega
        obtain ⟨sA, nS, tS, hsv, hslot, hIs, hok⟩ := S1.s1.is (r1 + j) sb[r1 + j] it1[r1 + j] xs1[r1 + j] (by simp [hs1]) (by simp [hi1]) (by simp [hlt])
        refine wpAny_execs_cons (Assign_Tuple ?_)
        refine Subscript_ ?_
        refine Subscript_ ?_
        refine q_name rfl rfl hn1 lo1.things rfl ?_
        refine q_name rfl rfl hn1 hk1 rfl ?_
        refine q_item (n := 1) ⟨_, hT, rfl, _, rfl⟩ rfl (by decide) rfl ?_
        refine Subscript_ ?_
        refine q_name rfl rfl hn1 lo1.read rfl ?_
        refine q_name rfl rfl hn1 hk1 rfl ?_
        refine q_item (n := 1) ⟨_, hR, rfl, _, rfl⟩ rfl (by decide) rfl ?_
        refine kba_turn (value' := .Name lawQ default) (fun _ => rfl) ?_
        refine q_item (n := r1 + j) (x := .ref sA) ⟨_, hTa, rfl, _, rfl⟩ (by push_cast; rfl) (by omega) (by rw [← hsv]; simp [hs1]) ?_
        rw [arm_assign_Tuple]
        refine wpAny_bind (wpAny_standAt ?_)
        unfold unpack
        refine wpAny_bind (wpAny_holding ?_)
        show wpAny _ _ (unpackItems (.ref sA) (#[it1[r1 + j], Value.str (duePart xs1[r1 + j]) tS] : Array Value).size none) _ _ _
        refine kun_itemsOf hA ⟨_, hslot, rfl, _, rfl⟩ fun h2 he2 => ?_
        have k2 : KeepS Nil h1 h2 := (KeepS.refl Nil h1).drop (KeepS.of_extBut (X := (· = h1.objs.size)) he2 rfl) fun b hb _ => by rw [hb]; exact Heap.get?_none_of_le (Nat.le_refl _)
        have hn2 := k2.ns id hn1
        show wpAny _ _ (assignInOrder _ [_, _]) _ _ _
        refine wpAny_bind (wpAny_holding (wpAny_assign_Name (q_store (by rfl) hn2 (by rfl) fun h3 u3 hn3 s3 => ?_)))
        refine wpAny_bind (wpAny_holding (wpAny_assign_Name (q_store (by rfl) hn3 (by rfl) fun h4 u4 hn4 s4 => ?_)))
        refine wpAny_pure ?_
        have K4 : KeepS (· = a.L) h1 h4 := (k2.mono fun _ q => q.elim).trans ((KeepS.loc s3).trans (KeepS.loc s4))
        have hLex : ∀ b, b = a.L → ∃ o, hb.get? b = some o := fun b q => by
          obtain ⟨o, _, _, ho, _⟩ := S.ns
          exact ⟨o, q ▸ ho⟩
        have l4 := l1.keep K4 hLex
        show wpAny _ _ (execs _ _) _ _ _
        -- append
        obtain ⟨nL, hL4⟩ := l4.ln
        obtain ⟨nA4, hA4⟩ := l4.lb
        refine wpAny_execs_cons (wpAny_Expr_any ?_)
        refine wpAny_Call_append (by rfl) (by rfl) (by rfl) (by rfl) ?_
        refine Subscript_ ?_
        refine q_name rfl rfl hn4 hln1 rfl ?_
        refine q_name rfl rfl hn4 hk1 rfl ?_
        refine q_item (n := 1) ⟨_, hL4, rfl, _, rfl⟩ rfl (by decide) rfl ⟨LB, _, rfl, ⟨_, _, hA4, rfl, rfl, rfl⟩, ?_⟩
        refine q_name rfl rfl hn4 rfl rfl ?_
        refine wpAny_list_append_plain ⟨_, hA4⟩ (fun h5 hA5 s5 => ?_) (Nat.le_trans (show _ ≤ 100 by simp; omega) (by decide +kernel))
        have K5 : KeepS (· = LB) h4 h5 := KeepS.loc s5
        have nLA : ∀ {b o}, hb.get? b = some o → b ≠ LB := fun e q => by rw [q, l.fb] at e; cases e
        obtain ⟨oL, esL, nnL, hoL, hdL⟩ := S.ns
        have hn5 := K5.ns (fun q => nLA hoL q) hn4
        obtain ⟨nR0, tR0, uR0, hR0⟩ := S.rd
        have hRL : a.Rd ≠ a.L := S.neL hR0
        have hR5 := K5.get (nLA hR0) (K4.get hRL hR (by simp)) (by simp)
        show wpAny _ _ (execs _ _) _ _ _
        -- read[k] += 1
        refine wpAny_execs_cons (wpAny_AugAssign_SubscriptAny ?_)
        refine q_name rfl rfl hn5 lo1.read rfl ?_
        refine q_name rfl rfl hn5 hk1 rfl ?_
        refine q_get (n := 1) ⟨_, hR5, rfl, _, rfl⟩ rfl (by decide) rfl ?_
        refine q_int fun _ _ => ?_
        refine q_iadd fun tn' un' => ?_
        refine q_set (n := 1) hR5 rfl (by simp) (by decide) fun h6 c6 h6R s6 => ?_
        refine wpAny_execs_nil ?_
        have K6 : KeepS (· = a.Rd) h5 h6 := KeepS.loc s6
        have hn6 := K6.ns (Ne.symm hRL) hn5
        have kb6 : KeepS (fun b => b = a.Rd ∨ b = a.L) hb h6 := ((k1.trans (K4.mono fun _ q => .inr q)).drop K5 (fun b hb _ => hb ▸ l.fb)).trans (K6.mono fun _ q => .inl q)
        have kh6 : KeepS (X4 a LA LB) h h6 := ((kh1.trans (K4.mono fun _ q => .inr (.inl q))).trans (K5.mono fun _ q => .inr (.inr (.inr q)))).trans (K6.mono fun _ q => .inl q)
        refine ⟨n - 1, by omega, (hI0 _ _).mpr ⟨h6, _, un', j + 1, duePart xs1[r1 + j], rfl, by omega, by omega, kb6, kh6, ⟨c6, ?_⟩, hn6, ⟨lo1.things, lo1.five, lo1.wells, lo1.read, lo1.echo⟩, fun y h1 h2 => ?_, ⟨_, rfl⟩, ?_, ?_⟩⟩
        · rw [h6R]
          refine ⟨tR, tn', ?_⟩
          simp
          try omega
        · rw [if_neg h2, if_neg h1]; exact hm1 y h1 h2
        · have l5 : Lin a hb Ln LA LB ra ((it1.toList.drop r1).take (j + 1)).toArray h5 := by
            refine ⟨l4.fn, l4.fa, l4.fb, l4.ab, l4.na, l4.nb, ?_, ?_, ?_⟩
            · exact ⟨_, K5.get l4.nb hL4 (by simp)⟩
            · obtain ⟨n5, e5⟩ := l4.la
              exact ⟨n5, K5.get l4.ab e5 (by simp)⟩
            · obtain ⟨n5, e5⟩ := hA5
              refine ⟨n5, ?_⟩
              rw [e5, take_push hi1]
          exact l5.keep K6 fun b q => ⟨_, q ▸ hR0⟩
        · have htk : (xs1.drop r1)[j]? = some xs1[r1 + j] := by rw [List.getElem?_drop, List.getElem?_eq_getElem hlt]
          cases hb2 : (xs1[r1 + j]).isB with
          | true =>
            refine .inl ⟨by simp [duePart, hb2], fun x hx => ?_⟩
            rw [List.take_add_one, htk] at hx
            rcases List.mem_append.mp hx with hx | hx
            · exact hall x hx
            · simp at hx; rw [hx]; exact hb2
          | false => exact .inr ⟨_, hok, scan_step hall htk hb2, by simp [duePart, hb2]⟩
      · rw [decide_eq_false (by omega), if_neg (by simp)]
        simp only [Bool.false_eq_true, if_false]
        refine wpAny_execs_nil ?_
        have hj2 : (xs1.drop r1).take j = xs1.drop r1 := List.take_of_length_le (by simp; omega)
        rw [hj2] at hall
        have hsc := scan_all hall
        refine hq h1 m1 _ k1 kh1 ⟨nR, tR, uR, ?_⟩ hn1 lo1 hm1 ⟨td, ?_⟩ ?_
        · rw [hsc]; simp only [List.length_drop]; rw [hR]; simp; omega
        · rw [hsc, hdue1, hdu]; rfl
        · rw [hsc]
          have : (xs1.drop r1).length = j := by simp; omega
          rw [this]; exact l1
    · have hne : (due == sE) = false := by
        rw [hdu]
        have : dueOf x ≠ sE := fun q => by
          have := congrArg PySem.Str.length q
          have hz : sE.length = 0 := by decide +kernel
          rw [hz] at this
          have c1 : (PySem.Str.ofString "all arguments must be bytes, not ").length = 33 := by decide +kernel
          unfold dueOf at this
          simp only [nb_len] at this
          omega
        simp [this]
      rw [hne, if_neg (by simp)]
      simp only [Bool.false_eq_true, if_false]
      refine wpAny_execs_nil ?_
      refine hq h1 m1 _ k1 kh1 ⟨nR, tR, uR, ?_⟩ hn1 lo1 hm1 ⟨td, ?_⟩ ?_
      · rw [hsc]; exact hR
      · rw [hsc, hdue1, hdu]; rfl
      · rw [hsc]; exact l1
  · simpa using l
end
end Mine
end
section
open PySem PySem.W PyProof.Rows PySem.Calls PySem.SeqAt
set_option maxRecDepth 100000
namespace Mine
section
variable {w : World} {A : Around} {E : Value → Shared → Prop} {h h' : Heap} {g : Array GenState} {d : Drawn} {tk : Nat} {os : OsState} {mg mb m m' : PySem.Str → Option Value} {a : Ad} {pl : Value} {sa sb it0 it1 fa fi ra rb : Array Value} {xs0 xs1 fs : List Thing} {r0 r1 w0 w1 r0' r1' : Nat} {ls : List Env} {env : Env} {t u : Tok} {Ln LA LB : Addr}
theorem dueOf_ne (x : Thing) : (dueOf x == sE) = false := by
  have : dueOf x ≠ sE := fun q => by
    have := congrArg PySem.Str.length q
    have hz : sE.length = 0 := by decide +kernel
    rw [hz] at this
    have c1 : (PySem.Str.ofString "all arguments must be bytes, not ").length = 33 := by decide +kernel
    unfold dueOf at this
    simp only [nb_len] at this
    omega
  simp [this]
theorem t_skip {td : Tok} {x : Thing} {Q : Flow → Shared → Prop} (hn : h.Ns a.L m) (hdue : m sDue = some (.str (dueOf x) td)) (hq : ∀ u, Q .next ⟨h, g, d, u, os⟩) : wpAny (model P w) A (exec whileS (lawEnv a.L)) Q E ⟨h, g, d, tk, os⟩ := by
  refine wpAny_While ?_
  refine codeAny_whileLoop (I := fun n s => s = ⟨h, g, d, tk, os⟩) ?_ 0 rfl
  rintro n s rfl
  refine isTrue_and ?_
  refine wpAny_isTrue_Compare1 ?_
  refine q_name rfl rfl hn hdue rfl ?_
  refine q_str fun te ue => ?_
  refine q_eq (RcAt.str_str (dueOf x) td sE te) ?_
  rw [dueOf_ne, if_neg (by simp)]
  simp only [Bool.false_eq_true, if_false]
  exact wpAny_execs_nil (hq _)
theorem Lin.keep' {X : Addr → Prop} {hb : Heap} (l : Lin a hb Ln LA LB ra rb h) (k : KeepS X h h') (hx : ¬ X Ln ∧ ¬ X LA ∧ ¬ X LB) : Lin a hb Ln LA LB ra rb h' := by
  refine ⟨l.fn, l.fa, l.fb, l.ab, l.na, l.nb, ?_, ?_, ?_⟩
  · obtain ⟨n, e⟩ := l.ln; exact ⟨n, k.get hx.1 e (by simp)⟩
  · obtain ⟨n, e⟩ := l.la; exact ⟨n, k.get hx.2.1 e (by simp)⟩
  · obtain ⟨n, e⟩ := l.lb; exact ⟨n, k.get hx.2.2 e (by simp)⟩
/-- both rows are read -/
theorem t_rows {hb : Heap} {Q : Flow → Shared → Prop} {du : Tok} (S : St mg mb a pl sa sb it0 it1 xs0 xs1 fa fi fs r0 r1 w0 w1 ls hb) (hA : A.handled = none) (hu : A.units + 10 < cLine) (hr0 : r0 ≤ xs0.length) (hr1 : r1 ≤ xs1.length)
    (kb : KeepS (fun b => b = a.Rd ∨ b = a.L) hb h) (rd : ∃ n t u, h.get? a.Rd = some (lstO #[.int (r0 : Int) t, .int (r1 : Int) u] n)) (hn : h.Ns a.L m) (lo : Lo a m) (hln : m sLines = some (.ref Ln)) (hdue : m sDue = some (.str sE du)) (l : Lin a hb Ln LA LB #[] #[] h)
    (hq : ∀ h' m' u n1, n1 = (if (scan (xs0.drop r0)).2 = none then (scan (xs1.drop r1)).1 else 0) → KeepS (fun b => b = a.Rd ∨ b = a.L) hb h' → (∃ n t u, h'.get? a.Rd = some (lstO #[.int ((r0 + (scan (xs0.drop r0)).1 : Nat) : Int) t, .int ((r1 + n1 : Nat) : Int) u] n)) → h'.Ns a.L m' → Lo a m' →
      (∀ y, y ≠ sThing → y ≠ sDue → y ≠ sK → m' y = m y) → (∃ t, m' sDue = some (.str (dueStr ((scan (xs0.drop r0)).2.orElse fun _ => (scan (xs1.drop r1)).2)) t)) →
      Lin a hb Ln LA LB ((it0.toList.drop r0).take (scan (xs0.drop r0)).1).toArray ((it1.toList.drop r1).take n1).toArray h' → Q .next ⟨h', g, d, u, os⟩) :
    wpAny (model P w) A (exec (turnS 7) (lawEnv a.L)) Q E ⟨h, g, d, tk, os⟩ := by
  have S0 := S.cnt kb rd hn
  refine wpAny_For ?_
  refine range_walk (N := 2) S0.sys.N S0.sys.B hA rfl rfl rfl (by rfl) (by decide) (by rfl) ?_
  refine q_int fun _ _ => ⟨_, h, _, rfl, rfl, fun h1 I u1 k1 hI0 hI W => ?_⟩
  have K1 : KeepS Nil h h1 := .of_grow k1
  have kb1 : KeepS (fun b => b = a.Rd ∨ b = a.L) hb h1 := kb.trans (K1.mono fun _ q => q.elim)
  have hn1 := K1.ns id hn
  have rd1 : ∃ n t u, h1.get? a.Rd = some (lstO #[.int (r0 : Int) t, .int (r1 : Int) u] n) := by obtain ⟨n, t, u, e⟩ := rd; exact ⟨n, t, u, K1.get id e (by simp)⟩
  have l1 := l.keep K1 (fun _ q => q.elim)
  have hRex : ∃ o, hb.get? a.Rd = some o := by obtain ⟨n, t, u, e⟩ := S.rd; exact ⟨_, e⟩
  have hLex : ∃ o, hb.get? a.L = some o := by obtain ⟨o, es, n, ho, hd⟩ := S.ns; exact ⟨o, ho⟩
  have hIL : I ≠ a.L := fun q => by obtain ⟨o, es, n, ho, hd⟩ := S0.ns; rw [q, ho] at hI0; cases hI0
  have hIR : I ≠ a.Rd := fun q => by obtain ⟨n, t, u, e⟩ := rd; rw [q, e] at hI0; cases hI0
  have hIA : I ≠ LA := fun q => by obtain ⟨n, e⟩ := l.la; rw [q, e] at hI0; cases hI0
  have hIB : I ≠ LB := fun q => by obtain ⟨n, e⟩ := l.lb; rw [q, e] at hI0; cases hI0
  have hIn : I ≠ Ln := fun q => by obtain ⟨n, e⟩ := l.ln; rw [q, e] at hI0; cases hI0
  have hILin : ¬ Ln = I ∧ ¬ LA = I ∧ ¬ LB = I := ⟨Ne.symm hIn, Ne.symm hIA, Ne.symm hIB⟩
  have toK : ∀ {hx hy : Heap}, (∀ b o, b ∉ [I] → hx.get? b = some o → hy.get? b = some o) → KeepS (· = I) hx hy := fun k2 b o hb e => ⟨⟨o.slots, k2 b o (fun q => hb (List.mem_singleton.mp q)) e⟩, fun _ => k2 b o (fun q => hb (List.mem_singleton.mp q)) e⟩
  have hIb : hb.get? I = none := kb.none (fun q => q.elim hIR hIL) hI0
  have hIX : ¬ X4 a LA LB I := fun q => by rcases q with q | q | q | q <;> contradiction
  obtain ⟨J0, hJ0⟩ : ∃ J : Nat → Shared → Prop, ∀ n s, J n s ↔ ((n = 2 ∧ s = ⟨h1, g, d, u1, os⟩) ∨
    (n = 1 ∧ ∃ h' m' u, s = ⟨h', g, d, u, os⟩ ∧ KeepS (fun b => b = a.Rd ∨ b = a.L) hb h' ∧ (∃ n t u, h'.get? a.Rd = some (lstO #[.int ((r0 + (scan (xs0.drop r0)).1 : Nat) : Int) t, .int (r1 : Int) u] n)) ∧ h'.Ns a.L m' ∧ Lo a m' ∧
      (∀ y, y ≠ sThing → y ≠ sDue → y ≠ sK → m' y = m y) ∧ (∃ t, m' sDue = some (.str (dueStr (scan (xs0.drop r0)).2) t)) ∧ Lin a hb Ln LA LB ((it0.toList.drop r0).take (scan (xs0.drop r0)).1).toArray #[] h' ∧ IsRangeIter h' I (0 + ((1 : Nat) : Int) * 1) (((2 : Nat) : Int) - ((1 : Nat) : Int)) 1) ∨
    (n = 0 ∧ ∃ h' m' u n1, s = ⟨h', g, d, u, os⟩ ∧ n1 = (if (scan (xs0.drop r0)).2 = none then (scan (xs1.drop r1)).1 else 0) ∧ KeepS (fun b => b = a.Rd ∨ b = a.L) hb h' ∧ (∃ n t u, h'.get? a.Rd = some (lstO #[.int ((r0 + (scan (xs0.drop r0)).1 : Nat) : Int) t, .int ((r1 + n1 : Nat) : Int) u] n)) ∧ h'.Ns a.L m' ∧ Lo a m' ∧
      (∀ y, y ≠ sThing → y ≠ sDue → y ≠ sK → m' y = m y) ∧ (∃ t, m' sDue = some (.str (dueStr ((scan (xs0.drop r0)).2.orElse fun _ => (scan (xs1.drop r1)).2)) t)) ∧ Lin a hb Ln LA LB ((it0.toList.drop r0).take (scan (xs0.drop r0)).1).toArray ((it1.toList.drop r1).take n1).toArray h' ∧ IsRangeIter h' I (0 + ((2 : Nat) : Int) * 1) (((2 : Nat) : Int) - ((2 : Nat) : Int)) 1)) := ⟨_, fun _ _ => Iff.rfl⟩
  refine codeAny_forLoop_any (I := J0) ?_ 2 ((hJ0 _ _).mpr (.inl ⟨rfl, rfl⟩))
  rintro n s hIn
  rcases (hJ0 n s).mp hIn with (⟨rfl, rfl⟩ | ⟨rfl, h2, m2, u2, rfl, kb2, rd2, hn2, lo2, hm2, hd2, l2, hI2⟩ | ⟨rfl, h2, m2, u2, n1, rfl, hn1', kb2, rd2, hn2, lo2, hm2, hd2, l2, hI2⟩)
  · refine W.item 0 _ _ _ (by decide) hI fun v h2 tk2 hv hI2 k2 => ?_
    obtain ⟨tv, rfl⟩ := hv
    refine wpAny_of_eq (a := ()) (by rfl) ?_
    have K2 := toK k2
    have hn2 := K2.ns (Ne.symm hIL) hn1
    refine wpAny_assign_Name (q_store (by rfl) hn2 (by rfl) fun h3 u3 hn3 s3 => ?_)
    have K3 : KeepS (· = a.L) h2 h3 := KeepS.loc s3
    have kb3 : KeepS (fun b => b = a.Rd ∨ b = a.L) hb h3 := (kb1.drop K2 fun b q _ => q ▸ hIb).trans (K3.mono fun _ q => .inr q)
    have l3 := (l1.keep' K2 hILin).keep K3 (fun b q => q ▸ hLex)
    have hI3 := K3.get hIL hI2 (by simp)
    have rd3 : ∃ n t u, h3.get? a.Rd = some (lstO #[.int (r0 : Int) t, .int (r1 : Int) u] n) := by
      have hRL : a.Rd ≠ a.L := by obtain ⟨n, t, u, e⟩ := rd; exact S0.neL e
      obtain ⟨n, t, u, e⟩ := rd1
      exact ⟨n, t, u, K3.get hRL (K2.get (Ne.symm hIR) e (by simp)) (by simp)⟩
    refine wpAny_execs_cons ?_
    refine t_while0 (due0 := sE) S hA hu hr0 rfl kb3 rd3 hn3 ⟨lo.things, lo.five, lo.wells, lo.read, lo.echo⟩ hln ⟨tv, rfl⟩ ⟨du, hdue⟩ l3 fun h4 m4 u4 kb4 kh4 rd4 hn4 lo4 hm4 hd4 l4 => ?_
    refine wpAny_execs_nil ?_
    refine ⟨1, by decide, (hJ0 _ _).mpr (.inr (.inl ⟨rfl, h4, m4, u4, rfl, kb4, rd4, hn4, lo4, fun y a1 a2 a3 => ?_, hd4, l4, kh4.get hIX hI3 (by simp)⟩))⟩
    rw [hm4 y a1 a2, if_neg a3]
  · refine W.item 1 _ _ _ (by decide) hI2 fun v h3 tk3 hv hI3 k3 => ?_
    obtain ⟨tv, rfl⟩ := hv
    refine wpAny_of_eq (a := ()) (by rfl) ?_
    have K3 := toK k3
    have hn3 := K3.ns (Ne.symm hIL) hn2
    refine wpAny_assign_Name (q_store (by rfl) hn3 (by rfl) fun h4 u4 hn4 s4 => ?_)
    have K4 : KeepS (· = a.L) h3 h4 := KeepS.loc s4
    have kb4 : KeepS (fun b => b = a.Rd ∨ b = a.L) hb h4 := (kb2.drop K3 fun b q _ => q ▸ hIb).trans (K4.mono fun _ q => .inr q)
    have l4 := (l2.keep' K3 hILin).keep K4 (fun b q => q ▸ hLex)
    have hI4 := K4.get hIL hI3 (by simp)
    have hRL : a.Rd ≠ a.L := by obtain ⟨n, t, u, e⟩ := rd; exact S0.neL e
    obtain ⟨nR, tR, uR, eR⟩ := rd2
    have eR4 := K4.get hRL (K3.get (Ne.symm hIR) eR (by simp)) (by simp)
    obtain ⟨td, hd2⟩ := hd2
    have hln4 : m2 sLines = some (.ref Ln) := (hm2 sLines (by decide) (by decide) (by decide)).trans hln
    refine wpAny_execs_cons ?_
    cases hsc : (scan (xs0.drop r0)).2 with
    | none =>
      rw [hsc] at hd2
      refine t_while1 (due0 := sE) (r0 := r0 + (scan (xs0.drop r0)).1) S hA hu hr1 rfl kb4 ⟨nR, tR, uR, eR4⟩ hn4 ⟨lo2.things, lo2.five, lo2.wells, lo2.read, lo2.echo⟩ hln4 ⟨tv, rfl⟩ ⟨td, hd2⟩ l4 fun h5 m5 u5 kb5 kh5 rd5 hn5 lo5 hm5 hd5 l5 => ?_
      refine wpAny_execs_nil ?_
      refine ⟨0, by decide, (hJ0 _ _).mpr (.inr (.inr ⟨rfl, h5, m5, u5, (scan (xs1.drop r1)).1, rfl, ?_, kb5, rd5, hn5, lo5, fun y a1 a2 a3 => ?_, ?_, l5, kh5.get hIX hI4 (by simp)⟩))⟩
      · rw [if_pos hsc]
      · rw [hm5 y a1 a2, if_neg a3]; exact hm2 y a1 a2 a3
      · rw [hsc]; exact hd5
    | some x =>
      rw [hsc] at hd2
      refine t_skip (x := x) (td := td) hn4 hd2 fun u5 => ?_
      refine wpAny_execs_nil ?_
      refine ⟨0, by decide, (hJ0 _ _).mpr (.inr (.inr ⟨rfl, h4, _, u5, 0, rfl, ?_, kb4, ⟨nR, tR, uR, eR4⟩, hn4, ⟨lo2.things, lo2.five, lo2.wells, lo2.read, lo2.echo⟩, fun y a1 a2 a3 => ?_, ⟨td, ?_⟩, ?_, hI4⟩))⟩
      · rw [if_neg (by rw [hsc]; simp)]
      · show (if y = sK then _ else m2 y) = _
        rw [if_neg a3]; exact hm2 y a1 a2 a3
      · rw [hsc]; exact hd2
      · exact l4
  · refine W.done _ _ _ hI2 fun h3 tk3 k3 => ?_
    have K3 := toK k3
    refine wpAny_execs_nil ?_
    have hRL : a.Rd ≠ a.L := by obtain ⟨n, t, u, e⟩ := rd; exact S0.neL e
    obtain ⟨nR, tR, uR, eR⟩ := rd2
    exact hq h3 m2 tk3 n1 hn1' (kb2.drop K3 fun b q _ => q ▸ hIb) ⟨nR, tR, uR, K3.get (Ne.symm hIR) eR (by simp)⟩ (K3.ns (Ne.symm hIL) hn2) lo2 hm2 hd2 (l2.keep' K3 hILin)
end
end Mine
end
section
open PySem PySem.W PyProof.Rows PySem.Calls PySem.SeqAt
set_option maxRecDepth 100000
namespace Mine
noncomputable def fixFirst : List Thing → List Thing
  | [] => []
  | x :: xs => if x.isB then x :: fixFirst xs else .bytes #[] :: xs
theorem fixFirst_len (fs : List Thing) : (fixFirst fs).length = fs.length := by
  induction fs with
  | nil => rfl
  | cons x xs ih => unfold fixFirst; split <;> simp [ih]
theorem fixFirst_all {fs : List Thing} (h : ∀ x ∈ fs, x.isB = true) : fixFirst fs = fs := by
  induction fs with
  | nil => rfl
  | cons x xs ih => unfold fixFirst; rw [if_pos (h x (List.mem_cons_self ..)), ih fun y hy => h y (List.mem_cons_of_mem _ hy)]
theorem find_all {fs : List Thing} (h : ∀ x ∈ fs, x.isB = true) : fs.find? (fun x => !x.isB) = none := by
  rw [List.find?_eq_none]; intro x hx; simp [h x hx]
theorem fixFirst_at {fs : List Thing} {i : Nat} (hi : i < fs.length) (h : ∀ x ∈ fs.take i, x.isB = true) (hb : fs[i].isB = false) : fixFirst fs = fs.set i (.bytes #[]) ∧ fs.find? (fun x => !x.isB) = some fs[i] := by
  induction fs generalizing i with
  | nil => simp at hi
  | cons x xs ih =>
    cases i with
    | zero =>
      have hb : x.isB = false := hb
      unfold fixFirst
      simp [hb, List.find?]
    | succ i =>
      have hx : x.isB = true := h x (by simp)
      have hi' : i < xs.length := by simpa using hi
      obtain ⟨e1, e2⟩ := ih hi' (fun y hy => h y (by simp [hy])) (by simpa using hb)
      unfold fixFirst
      simp [hx, List.find?, e1]
      simpa using e2
section
variable {w : World} {A : Around} {E : Value → Shared → Prop} {h h' : Heap} {g : Array GenState} {d : Drawn} {tk : Nat} {os : OsState} {mg mb m m' : PySem.Str → Option Value} {a : Ad} {pl : Value} {sa sb it0 it1 fa fi fa' fi' ra rb : Array Value} {xs0 xs1 fs fs' : List Thing} {r0 r1 w0 w1 r0' r1' : Nat} {ls : List Env} {env : Env} {t u : Tok} {Ln LA LB : Addr}
theorem St.nfive (s : St mg mb a pl sa sb it0 it1 xs0 xs1 fa fi fs r0 r1 w0 w1 ls h) (k : KeepS (fun b => b = a.Fv ∨ b = a.L) h h') (hn : h'.Ns a.L m') (fv : ∃ n, h'.get? a.Fv = some (lstO fa' n)) (s5 : Slots h' fa' fi' fs') (five : fs'.length = 5) :
    St mg mb a pl sa sb it0 it1 xs0 xs1 fa' fi' fs' r0 r1 w0 w1 ls h' := by
  obtain ⟨n, e⟩ := s.fv
  obtain ⟨oL, es, nL, hoL, hdL⟩ := s.ns
  have kX : KeepS a.X h h' := k.mono fun _ q => q.elim (fun q => .inr (.inl q)) fun q => .inr (.inr (.inr (.inr (.inl q))))
  have fair : Fair (fun b => b = a.Fv ∨ b = a.L) h := Fair.or (Fair.cls e (by simp) s.bF) (fun b hb => ⟨hb ▸ s.bL, fun o' vs ho' _ q => by subst hb; rw [hoL] at ho'; cases ho'; rw [hdL] at q; cases q⟩)
  have nW : ∀ {W l it i}, Well h W l it i → ¬ (W = a.Fv ∨ W = a.L) := fun w q => by
    obtain ⟨o, ho, hc, hd⟩ := w.it
    rcases q with q | q
    · rw [q, e] at ho; cases ho; exact absurd hc (by simp)
    · rw [q, hoL] at ho; cases ho; rcases hd with hd | ⟨hd, _⟩ <;> (rw [hd] at hdL; cases hdL)
  have nl : ∀ {W l it i}, Well h W l it i → ¬ l = a.L := fun w q => by
    obtain ⟨o, ho, hc, n', hd⟩ := w.lst
    rw [q, hoL] at ho; cases ho; rw [hd] at hdL; cases hdL
  obtain ⟨n', t, u, e'⟩ := s.rd
  refine s.step kX (s.sys.keep k fair) fv s5 five ⟨n', t, u, k.get (fun q => q.elim s.RF (s.neL e')) e' (by simp)⟩ (s.v0.keep k (nW s.v0) (fun q => q.elim (Ne.symm s.Fla) (nl s.v0))) (s.v1.keep k (nW s.v1) (fun q => q.elim (Ne.symm s.Flb) (nl s.v1))) ?_
  refine s.fr.keepN' k hn fun env he L' hf q => ?_
  rcases q with q | q
  · exact absurd (q ▸ hf) (s.fr.not_mem e (by simp) env he)
  · exact q
theorem Slots.set {sN : Addr} {n : Nat} {tb ts : Tok} (S : Slots h fa fi fs) {i : Nat} (hs : h.get? sN = some (lstO #[.bytes #[] tb, .str sE ts] n)) : Slots h (fa.setIfInBounds i (.ref sN)) (fi.setIfInBounds i (.bytes #[] tb)) (fs.set i (.bytes #[])) := by
  refine ⟨by simp [S.len], by simp [S.len'], fun j sv v x hsv hv hx => ?_⟩
  by_cases hij : i = j
  · subst hij
    have hl : i < fs.length := by have := (List.getElem?_eq_some_iff.mp hx).1; simpa using this
    have h1 : i < fa.size := by rw [S.len]; exact hl
    have h2 : i < fi.size := by rw [S.len']; exact hl
    rw [Array.getElem?_setIfInBounds_self_of_lt h1] at hsv
    rw [Array.getElem?_setIfInBounds_self_of_lt h2] at hv
    rw [List.getElem?_set_self hl] at hx
    cases hsv; cases hv; cases hx
    exact ⟨sN, n, ts, rfl, hs, rfl, by show 0 ≤ 2; decide⟩
  · rw [Array.getElem?_setIfInBounds_ne hij] at hsv
    rw [Array.getElem?_setIfInBounds_ne hij] at hv
    rw [List.getElem?_set_ne hij] at hx
    exact S.is j sv v x hsv hv hx
end
end Mine
end
section
open PySem PySem.W PyProof.Rows PySem.Calls PySem.SeqAt
set_option maxRecDepth 100000
namespace Mine
noncomputable def newFs (v : Option Thing) (fs : List Thing) : List Thing := match v with | none => fixFirst fs | some _ => fs
abbrev badOf (fs : List Thing) : Option Thing := fs.find? fun x => !x.isB
section
variable {w : World} {A : Around} {E : Value → Shared → Prop} {h h' : Heap} {g : Array GenState} {d : Drawn} {tk : Nat} {os : OsState} {mg mb m m' : PySem.Str → Option Value} {a : Ad} {pl : Value} {sa sb it0 it1 fa fi fa' fi' ra rb : Array Value} {xs0 xs1 fs fs' : List Thing} {r0 r1 w0 w1 r0' r1' : Nat} {ls : List Env} {env : Env} {t u : Tok} {Ln LA LB : Addr}
theorem Slots.away {X : Addr → Prop} (S : Slots h fa fi fs) (k : KeepS X h h') (hx : ∀ b o vs n, X b → h.get? b = some o → o.data ≠ .seq vs n) : Slots h' fa fi fs :=
  S.keep k (fun b arr n q e => absurd rfl (hx b _ _ _ q e)) (fun b arr n q e => absurd rfl (hx b _ _ _ q e))
theorem t_five {v : Option Thing} {Q : Flow → Shared → Prop} (S : St mg mb a pl sa sb it0 it1 xs0 xs1 fa fi fs r0 r1 w0 w1 ls h) (hA : A.handled = none) (hn : h.Ns a.L m) (lo : Lo a m) (hdue : ∃ t, m sDue = some (.str (dueStr v) t))
    (hq : ∀ h' m' u fa' fi', KeepS (fun b => b = a.Fv ∨ b = a.L) h h' → St mg mb a pl sa sb it0 it1 xs0 xs1 fa' fi' (newFs v fs) r0 r1 w0 w1 ls h' → h'.Ns a.L m' → Lo a m' → (∀ y, y ≠ sDue → y ≠ sK → m' y = m y) →
      (∃ t, m' sDue = some (.str (dueStr (v.orElse fun _ => badOf fs)) t)) → Q .next ⟨h', g, d, u, os⟩) :
    wpAny (model P w) A (exec (turnS 8) (lawEnv a.L)) Q E ⟨h, g, d, tk, os⟩ := by
  refine wpAny_For ?_
  refine range_walk (N := 5) S.sys.N S.sys.B hA rfl rfl rfl (by rfl) (by decide) (by rfl) ?_
  refine q_int fun _ _ => ⟨_, h, _, rfl, rfl, fun h1 I u1 k1 hI0 hI W => ?_⟩
  have K1 : KeepS Nil h h1 := .of_grow k1
  obtain ⟨oL, esL, nnL, hoL, hdL⟩ := S.ns
  obtain ⟨nF, hF⟩ := S.fv
  have hIL : I ≠ a.L := fun q => by rw [q, hoL] at hI0; cases hI0
  have hIF : I ≠ a.Fv := fun q => by rw [q, hF] at hI0; cases hI0
  have hFL : a.Fv ≠ a.L := S.neL hF
  have toK : ∀ {hx hy : Heap}, (∀ b o, b ∉ [I] → hx.get? b = some o → hy.get? b = some o) → KeepS (· = I) hx hy := fun k2 b o hb e => ⟨⟨o.slots, k2 b o (fun q => hb (List.mem_singleton.mp q)) e⟩, fun _ => k2 b o (fun q => hb (List.mem_singleton.mp q)) e⟩
  have awayI : ∀ {hx : Heap} {p q r : Int}, IsRangeIter hx I p q r → ∀ b o vs n, b = I → hx.get? b = some o → o.data ≠ .seq vs n := fun e b o vs n q ho hd => by subst q; rw [e] at ho; cases ho; cases hd
  have awayL : ∀ {hx : Heap} {mx : PySem.Str → Option Value}, hx.Ns a.L mx → ∀ b o vs n, b = a.L → hx.get? b = some o → o.data ≠ .seq vs n := fun e b o vs n q ho hd => by
    subst q
    obtain ⟨o', es, n', ho', hd', _⟩ := e
    rw [ho] at ho'; cases ho'; rw [hd] at hd'; cases hd'
  have five := S.five
  obtain ⟨J0, hJ0⟩ : ∃ J : Nat → Shared → Prop, ∀ n s, J n s ↔ (∃ i h' m' u fa' fi' fs' cur, n + i = 5 ∧ s = ⟨h', g, d, u, os⟩ ∧ KeepS (fun b => b = a.Fv ∨ b = a.L) h h' ∧ (∃ n, h'.get? a.Fv = some (lstO fa' n)) ∧ Slots h' fa' fi' fs' ∧ fs'.length = 5 ∧ h'.Ns a.L m' ∧ Lo a m' ∧ (∀ y, y ≠ sDue → y ≠ sK → m' y = m y) ∧
    (∃ t, m' sDue = some (.str (dueStr cur) t)) ∧ IsRangeIter h' I (0 + ((i : Nat) : Int) * 1) (((5 : Nat) : Int) - ((i : Nat) : Int)) 1 ∧
    ((cur = v ∧ fs' = fs ∧ (v = none → ∀ x ∈ fs.take i, x.isB = true)) ∨ (v = none ∧ ∃ x, badOf fs = some x ∧ cur = some x ∧ fs' = fixFirst fs))) := ⟨_, fun _ _ => Iff.rfl⟩
  refine codeAny_forLoop_any (I := J0) ?_ 5 ((hJ0 _ _).mpr
    ⟨0, h1, m, u1, fa, fi, fs, v, rfl, rfl, K1.mono fun _ q => q.elim, ⟨nF, K1.get id hF (by simp)⟩, S.s5.away K1 (fun _ _ _ _ q => q.elim), five, K1.ns id hn, lo, fun _ _ _ => rfl, hdue, hI, .inl ⟨rfl, rfl, fun _ x hx => by simp at hx⟩⟩)
  rintro n s hIn
  obtain ⟨i, h2, m2, u2, fa2, fi2, fs2, cur, hni, rfl, kb2, ⟨nF2, hF2⟩, s52, five2, hn2, lo2, hm2, ⟨td, hd2⟩, hI2, hc⟩ := (hJ0 n s).mp hIn
  by_cases hi : i < 5
  · refine W.item i _ _ _ hi hI2 fun vv h3 tk3 hv hI3 k3 => ?_
    obtain ⟨tv, rfl⟩ := hv
    refine wpAny_of_eq (a := ()) (by rfl) ?_
    have K3 := toK k3
    have hn3 := K3.ns (Ne.symm hIL) hn2
    have s53 := s52.away K3 (awayI hI2)
    have hF3 := K3.get (Ne.symm hIF) hF2 (by simp)
    refine wpAny_assign_Name (q_store (by rfl) hn3 (by rfl) fun h4 u4 hn4 s4 => ?_)
    have K4 : KeepS (· = a.L) h3 h4 := KeepS.loc s4
    have s54 := s53.away K4 (awayL hn3)
    have hF4 := K4.get hFL hF3 (by simp)
    have hI4 := K4.get hIL hI3 (by simp)
    have kb4 : KeepS (fun b => b = a.Fv ∨ b = a.L) h h4 := (kb2.drop K3 fun b q _ => q ▸ hI0).trans (K4.mono fun _ q => .inr q)
    have hki : (0 + ((i : Nat) : Int) * 1) = (i : Int) := by omega
    have hm4 : ∀ y, y ≠ sDue → y ≠ sK → (if y = sK then some (Value.int (0 + ((i : Nat) : Int) * 1) tv) else m2 y) = m y := fun y a1 a2 => by rw [if_neg a2]; exact hm2 y a1 a2
    have hi2 : i < fs2.length := by omega
    have hfa2 : i < fa2.size := by rw [s54.len]; exact hi2
    have hfi2 : i < fi2.size := by rw [s54.len']; exact hi2
    obtain ⟨sA, nS, tS, hsv, hslot, hIs, hok⟩ := s54.is i fa2[i] fi2[i] fs2[i] (by simp [hfa2]) (by simp [hfi2]) (by simp [hi2])
    refine wpAny_execs_cons (wpAny_If ?_)
    refine isTrue_and ?_
    refine wpAny_isTrue_Compare1 ?_
    refine q_name rfl rfl hn4 hd2 rfl ?_
    refine q_str fun te ue => ?_
    refine q_eq (RcAt.str_str (dueStr cur) td sE te) ?_
    have leave : ∀ (hcc : (cur = v ∧ fs2 = fs ∧ (v = none → ∀ x ∈ fs.take (i + 1), x.isB = true)) ∨ (v = none ∧ ∃ x, badOf fs = some x ∧ cur = some x ∧ fs2 = fixFirst fs)) (u5 : Nat), ∃ m', m' < n ∧ J0 m' ⟨h4, g, d, u5, os⟩ := fun hcc u5 =>
      ⟨n - 1, by omega, (hJ0 _ _).mpr ⟨i + 1, h4, _, u5, fa2, fi2, fs2, cur, by omega, rfl, kb4, ⟨nF2, hF4⟩, s54, five2, hn4, ⟨lo2.things, lo2.five, lo2.wells, lo2.read, lo2.echo⟩, hm4, ⟨td, hd2⟩, hI4, hcc⟩⟩
    cases cur with
    | some x =>
      rw [show (dueStr (some x) == sE) = false from dueOf_ne x, if_neg (by simp)]
      rw [if_neg (by simp)]
      refine wpAny_execs_nil ?_
      refine wpAny_execs_nil ?_
      refine leave ?_ _
      rcases hc with ⟨h1, h2, h3⟩ | hc
      · exact .inl ⟨h1, h2, fun q => by rw [q] at h1; cases h1⟩
      · exact .inr hc
    | none =>
      obtain ⟨hvn, hfs, hall⟩ : none = v ∧ fs2 = fs ∧ (v = none → ∀ x ∈ fs.take i, x.isB = true) := by
        rcases hc with hc | ⟨_, x, _, q, _⟩
        · exact hc
        · cases q
      subst hvn hfs
      have hall := hall rfl
      rw [show (dueStr none == sE) = true from beq_self_eq_true _, if_pos rfl]
      refine isTrue_and ?_
      refine wpAny_isTrue_Compare1 ?_
      refine Subscript_ ?_
      refine Subscript_ ?_
      refine q_name rfl rfl hn4 lo2.five rfl ?_
      refine q_name rfl rfl hn4 rfl rfl ?_
      refine q_item (n := i) (x := .ref sA) ⟨_, hF4, rfl, _, rfl⟩ hki (by omega) (by rw [← hsv]; simp [hfa2]) ?_
      refine q_int fun _ _ => ?_
      refine kba_turn (value' := .Name lawQ default) (fun _ => rfl) ?_
      refine q_item (n := 1) ⟨_, hslot, rfl, _, rfl⟩ rfl (by decide) rfl ?_
      refine q_str fun te2 ue2 => ?_
      refine q_ne (RcNeAt.str_str (duePart fs2[i]) tS sE te2) ?_
      cases hb : (fs2[i]).isB with
      | true =>
        rw [show duePart fs2[i] = sE by simp [duePart, hb]]
        rw [beq_self_eq_true]
        rw [if_neg (by simp)]
        rw [if_neg (by simp)]
        refine wpAny_execs_nil ?_
        refine wpAny_execs_nil ?_
        refine leave (.inl ⟨rfl, rfl, fun _ x hx => ?_⟩) _
        rw [List.take_add_one, List.getElem?_eq_getElem hi2] at hx
        rcases List.mem_append.mp hx with hx | hx
        · exact hall x hx
        · simp at hx; rw [hx]; exact hb
      | false =>
        have hdp : duePart fs2[i] = dueOf fs2[i] := by simp [duePart, hb]
        rw [hdp, dueOf_ne]
        rw [if_pos (by rfl)]
        refine isTrue_and_nil ?_
        rw [if_pos rfl]
        refine wpAny_execs_cons (wpAny_Assign_Name ?_)
        refine Subscript_ ?_
        refine Subscript_ ?_
        refine q_name rfl rfl hn4 lo2.five rfl ?_
        refine q_name rfl rfl hn4 rfl rfl ?_
        refine q_item (n := i) (x := .ref sA) ⟨_, hF4, rfl, _, rfl⟩ hki (by omega) (by rw [← hsv]; simp [hfa2]) ?_
        refine q_int fun _ _ => ?_
        refine kba_turn (value' := .Name lawQ default) (fun _ => rfl) ?_
        refine q_item (n := 1) ⟨_, hslot, rfl, _, rfl⟩ rfl (by decide) rfl ?_
        rw [hdp]
        refine q_store (by rfl) hn4 (by rfl) fun h5 u5 hn5 s5 => ?_
        have K5 : KeepS (· = a.L) h4 h5 := KeepS.loc s5
        show wpAny _ _ (execs _ _) _ _ _
        refine wpAny_execs_cons (wpAny_Assign_Subscript ?_)
        refine q_list (spliced_more (q_bytes fun tb ub => ?_))
        refine spliced_more (q_str fun ts us => ?_)
        refine spliced_none ⟨by show 2 ≤ 1000; decide, h5, _, rfl, fun h6 sN k6 hsN0 hsNz hsN => ?_⟩
        have K6 : KeepS Nil h5 h6 := .of_grow k6
        have hn6 := K6.ns id hn5
        have hF6 := K6.get id (K5.get hFL hF4 (by simp)) (by simp)
        refine q_name rfl rfl hn6 lo2.five rfl ?_
        refine q_name rfl rfl hn6 rfl rfl ?_
        refine q_set (n := i) hF6 hki hfa2 (by omega) fun h7 c7 h7F s7 => ?_
        have K7 : KeepS (· = a.Fv) h6 h7 := KeepS.loc s7
        refine wpAny_execs_nil ?_
        refine wpAny_execs_nil ?_
        have hsNF : sN ≠ a.Fv := fun q => by rw [q, K5.get hFL hF4 (by simp)] at hsN0; cases hsN0
        have hsN7 := K7.get hsNF hsN (by simp)
        have s55 := s54.away K5 (awayL hn4)
        have s56 := s55.away K6 (fun _ _ _ _ q => q.elim)
        have s57 : Slots h7 fa2 fi2 fs2 := s56.keep K7 (fun b arr n q e => by
          subst q
          rw [hF6] at e; cases e
          exact .inl (by rw [s54.len, five2])) (fun b arr n q e => by subst q; rw [hF6] at e; simp at e)
        obtain ⟨e1, e2⟩ := fixFirst_at hi2 hall hb
        refine ⟨n - 1, by omega, (hJ0 _ _).mpr ⟨i + 1, h7, _, _, _, _, _, some fs2[i], by omega, rfl, ((kb4.trans (K5.mono fun _ q => .inr q)).trans (K6.mono fun _ q => q.elim)).trans (K7.mono fun _ q => .inl q), ⟨c7, h7F⟩, s57.set hsN7, by simp [five2], K7.ns (Ne.symm hFL) hn6, ⟨lo2.things, lo2.five, lo2.wells, lo2.read, lo2.echo⟩, fun y a1 a2 => ?_, ⟨tS, rfl⟩, K7.get hIF (K6.get id (K5.get hIL hI4 (by simp)) (by simp)) (by simp), .inr ⟨rfl, _, e2, rfl, e1.symm⟩⟩⟩
        rw [if_neg a1]; exact hm4 y a1 a2
  · have : i = 5 := by omega
    subst this
    refine W.done _ _ _ hI2 fun h3 tk3 k3 => ?_
    have K3 := toK k3
    refine wpAny_execs_nil ?_
    have s53 := s52.away K3 (awayI hI2)
    have hF3 := K3.get (Ne.symm hIF) hF2 (by simp)
    have hn3 := K3.ns (Ne.symm hIL) hn2
    have kb3 : KeepS (fun b => b = a.Fv ∨ b = a.L) h h3 := kb2.drop K3 fun b q _ => q ▸ hI0
    have S3 := S.nfive kb3 hn3 ⟨nF2, hF3⟩ s53 five2
    rcases hc with ⟨rfl, rfl, hall⟩ | ⟨rfl, x, hx, rfl, rfl⟩
    · cases cur with
      | none =>
        have hall := hall rfl
        rw [List.take_of_length_le (by omega)] at hall
        have e : newFs none fs2 = fs2 := fixFirst_all hall
        refine hq h3 m2 tk3 fa2 fi2 kb3 (by rw [e]; exact S3) hn3 lo2 hm2 ⟨td, ?_⟩
        rw [show badOf fs2 = none from find_all hall]
        exact hd2
      | some x => exact hq h3 m2 tk3 fa2 fi2 kb3 S3 hn3 lo2 hm2 ⟨td, hd2⟩
    · refine hq h3 m2 tk3 fa2 fi2 kb3 S3 hn3 lo2 hm2 ⟨td, ?_⟩
      rw [hx]; exact hd2
end
end Mine
end
section
open PySem PySem.W PyProof.Rows PySem.Calls PySem.SeqAt
set_option maxRecDepth 100000
namespace Mine
abbrev TX (h : Heap) (e : Addr) : Addr → Prop := fun a => a = e ∨ ∃ o ts x, h.get? a = some o ∧ o.data = .fields ts ∧ ts[3]? = some x
theorem Flt.cut {h₀ h : Heap} {e : Addr} {cls fl : Value} {a0 : Option Value × Option Value} (X : Flt h₀ h e cls a0 fl) :
    ∃ hc, Flt hc h e cls a0 fl ∧ ∀ h' fl', Flt hc h' e cls a0 fl' → Flt h₀ h' e cls a0 fl' ∧ KeepS (TX h e) h h' := by
  obtain ⟨k, n, o, vs, he, hc, hd, h0, hh⟩ := X
  rcases hh with ⟨h1, q⟩ | ⟨T, oT, ts, h1, hnT, hTe, hT, hdT, h3⟩
  · refine ⟨h.update e fun o => { o with data := .freed }, ⟨cut_keep, freed_none he, o, vs, he, hc, hd, h0, .inl ⟨h1, q⟩⟩, fun h' fl' X' => ?_⟩
    have kk : KeepS (· = e) h h' := fun b ob hb hob => X'.keep b ob id ((Heap.get?_update_other _ _ (Ne.symm hb)).trans hob)
    refine ⟨⟨k.drop kk fun b hb _ => hb ▸ n, n, ?_⟩, kk.mono fun _ q => .inl q⟩
    obtain ⟨o', vs', he', hc', hd', h0', hh'⟩ := X'.obj
    refine ⟨o', vs', he', hc', hd', h0', ?_⟩
    rcases hh' with hh' | ⟨T', oT', ts', h1', hnT', hTe', hT', hdT', h3'⟩
    · exact .inl hh'
    · refine .inr ⟨T', oT', ts', h1', ?_, hTe', hT', hdT', h3'⟩
      cases hz : h₀.get? T' with
      | none => rfl
      | some oz =>
        obtain ⟨o2, ho2, _⟩ := k.data id hz
        rw [Heap.get?_update_other _ _ (Ne.symm hTe'), ho2] at hnT'; cases hnT'
  · have heT : (h.update T fun o => { o with data := .freed }).get? e = some o := (Heap.get?_update_other _ _ hTe).trans he
    refine ⟨(h.update T fun o => { o with data := .freed }).update e fun o => { o with data := .freed }, ⟨cut_keep.trans cut_keep, freed_none heT, o, vs, he, hc, hd, h0,
      .inr ⟨T, oT, ts, h1, (Heap.get?_update_other _ _ (Ne.symm hTe)).trans (freed_none hT), hTe, hT, hdT, h3⟩⟩, fun h' fl' X' => ?_⟩
    have kk : KeepS (fun b => b = e ∨ b = T) h h' := fun b ob hb hob => X'.keep b ob id
      ((Heap.get?_update_other _ _ (fun q => hb (.inl q.symm))).trans ((Heap.get?_update_other _ _ (fun q => hb (.inr q.symm))).trans hob))
    refine ⟨⟨k.drop kk fun b hb _ => by rcases hb with rfl | rfl <;> assumption, n, ?_⟩, kk.mono fun a q => by
      rcases q with rfl | rfl
      · exact .inl rfl
      · exact .inr ⟨oT, ts, _, hT, hdT, h3⟩⟩
    obtain ⟨o', vs', he', hc', hd', h0', hh'⟩ := X'.obj
    refine ⟨o', vs', he', hc', hd', h0', ?_⟩
    rcases hh' with hh' | ⟨T', oT', ts', h1', hnT', hTe', hT', hdT', h3'⟩
    · exact .inl hh'
    · refine .inr ⟨T', oT', ts', h1', ?_, hTe', hT', hdT', h3'⟩
      cases hz : h₀.get? T' with
      | none => rfl
      | some oz =>
        obtain ⟨o2, ho2, _⟩ := k.data id hz
        by_cases hq : T' = T
        · rw [hq, hnT] at hz; cases hz
        · rw [Heap.get?_update_other _ _ (Ne.symm hTe'), Heap.get?_update_other _ _ (Ne.symm hq), ho2] at hnT'; cases hnT'
end Mine
end
section
open PySem PySem.W PyProof.Rows PySem.Calls PySem.SeqAt
set_option maxRecDepth 100000
namespace Mine
abbrev sReport := PySem.Str.ofString "report"
abbrev sTold := PySem.Str.ofString "told"
abbrev sFault := PySem.Str.ofString "fault"
theorem sub_te_te : isSubtype (.type "TypeError") (.type "TypeError") = pure true := by rw [isSubtype_type]; kernel_rfl
theorem meta_te : isSubtype (.type ((Manifest.find? "TypeError").elim "type" fun x => x.metatype)) (.type "tuple") = pure false := by kernel_rfl
section
variable {w : World} {A : Around} {E : Value → Shared → Prop} {h h' ht : Heap} {g : Array GenState} {d : Drawn} {tk : Nat} {os : OsState} {mg mb m m' : PySem.Str → Option Value} {a : Ad} {pl pm : Value} {sa sb it0 it1 fa fi fa0 fa1 fi1 ra rb : Array Value} {xs0 xs1 fs fs1 : List Thing} {r0 r1 i0 i1 : Nat} {ls : List Env} {t1 t2 : Tok} {Ln LA LB L2 Rp : Addr} {gn : Nat} {f0 f1 f2 f3 f4 nv : Value} {x0 x1 x2 x3 x4 : Thing}
/-- the generator's view of law's state -/
theorem St.gst (S : St mg mb a pl sa sb it0 it1 xs0 xs1 fa fi fs r0 r1 i0 i1 ls h) (hn2 : h.Ns L2 (fun x => (dbBinds a.Fn a.W0 a.W1 f0 f1 f2 f3 nv f4).reverse.lookup x)) (hL2 : nB ≤ L2) (s5 : Slots h fa0 #[f0, f1, f2, f3, f4] [x0, x1, x2, x3, x4]) (h0 : i0 ≤ xs0.length) (h1 : i1 ≤ xs1.length) :
    Gst mg mb (fun x => (dbBinds a.Fn a.W0 a.W1 f0 f1 f2 f3 nv f4).reverse.lookup x) L2 a.W0 a.W1 a.la a.lb it0 it1 i0 i1 xs0 xs1 [f0, f1, f2, f3, f4] [x0, x1, x2, x3, x4] a.Fn a.cl pl (dbEnv L2 pm :: lawEnv a.L :: ls) h := by
  have z0 := S.z0; have z1 := S.z1
  have T5 := s5.things
  refine ⟨S.sys, hn2, hL2, S.b0, S.b1, S.ww, S.v0, S.v1, by rw [S.s0.len']; exact h0, by rw [S.s1.len']; exact h1, S.s0.things, S.s1.things, by rw [S.s0.len']; omega, by rw [S.s1.len']; omega, rfl, fun k v x hv hx => T5.is k v x ?_ hx, T5.ok, S.fn, S.fc, Frs.cons (by show ScopeKind.function ≠ .module; simp) rfl hL2 hn2 S.fr⟩
  have : (#[f0, f1, f2, f3, f4] : Array Value)[k]? = [f0, f1, f2, f3, f4][k]? := by simp
  rw [this]; exact hv
theorem XX.lists {Z : Addr → Prop} (D : Odd Z h) {b : Addr} {arr : Array Value} {n : Nat} (e : h.get? b = some (lstO arr n)) : ¬ Z b := D.not e ⟨by simp, by simp⟩ (by simp)
theorem Odd.slots {Z : Addr → Prop} (D : Odd Z h) : ∀ b o vs n, Z b → h.get? b = some o → o.data ≠ .seq vs n := fun b o vs n q e hd => by
  obtain ⟨o', ho', r⟩ := D b q
  rw [e] at ho'
  cases ho'
  rcases r with ⟨_, vs', r⟩ | ⟨es, n', r⟩ <;> (rw [hd] at r; cases r)
/-- law's state behind the generator's work -/
theorem St.behind {faS fiS : Array Value} {fsS : List Thing} {q0 q1 p0 p1 j0 j1 : Nat} (S0 : St mg mb a pl sa sb it0 it1 xs0 xs1 faS fiS fsS q0 q1 p0 p1 ls ht) (K : KeepS a.X ht h) (S : St mg mb a pl sa sb it0 it1 xs0 xs1 fa fi fs r0 r1 i0 i1 ls h)
    (hL0 : ht.get? L2 = none) (D : Odd (XX a.W0 a.W1 L2) h) (k : KeepS (XX a.W0 a.W1 L2) h h') (hs : Sys mg mb h') (w0 : Well h' a.W0 a.la it0 j0) (w1 : Well h' a.W1 a.lb it1 j1) (fr : Frs h' (lawEnv a.L :: ls)) :
    KeepS a.X ht h' ∧ St mg mb a pl sa sb it0 it1 xs0 xs1 fa fi fs r0 r1 j0 j1 ls h' := by
  have K' : KeepS a.X ht h' := K.drop k fun b hb hx => by
    rcases hb with q | q | q | q
    · exact absurd (.inr (.inr (.inl q))) hx
    · exact absurd (.inr (.inr (.inr (.inl q)))) hx
    · exact q ▸ hL0
    · exact absurd (.inr (.inr (.inr (.inr (.inr q))))) hx
  obtain ⟨nF, hF⟩ := S.fv
  obtain ⟨nR, tR, uR, hR⟩ := S.rd
  exact ⟨K', S0.step K' hs ⟨nF, k.get (XX.lists D hF) hF (by simp)⟩ (S.s5.away k D.slots) S.five ⟨nR, tR, uR, k.get (XX.lists D hR) hR (by simp)⟩ w0 w1 fr⟩
theorem t_try_ok {faS fiS : Array Value} {fsS : List Thing} {q0 q1 p0 p1 : Nat} {hl : Heap} {Q : Flow → Shared → Prop} (S0 : St mg mb a pl sa sb it0 it1 xs0 xs1 faS fiS fsS q0 q1 p0 p1 ls ht) (K : KeepS a.X ht h) (S : St mg mb a pl sa sb it0 it1 xs0 xs1 fa fi fs r0 r1 i0 i1 ls h)
    (hn : h.Ns a.L m) (lo : Lo a m) (hrep : m sReport = some (.ref Rp)) (hRp : h.get? Rp = some (genO gn t1 t2)) (hn2 : h.Ns L2 (fun x => (dbBinds a.Fn a.W0 a.W1 f0 f1 f2 f3 nv f4).reverse.lookup x)) (hL2 : nB ≤ L2) (hL0 : ht.get? L2 = none)
    (s5 : Slots h fa0 #[f0, f1, f2, f3, f4] [x0, x1, x2, x3, x4]) (l : Lin a hl Ln LA LB ra rb h) (hi0 : i0 ≤ xs0.length) (hi1 : i1 ≤ xs1.length) (hgs : g[gn]? = some (.fresh (.func dbBody (dbEnv L2 pm))))
    (hroom : A.depth + 5 < recursionLimit) (hA : A.handled = none) (hfr : A.frames = some (lawEnv a.L :: ls)) (hg : A.guards = some []) (hu : A.units + 90 < cLine)
    (hv : verdict (scan (xs0.drop i0)).2 (scan (xs1.drop i1)).2 [x0, x1, x2, x3, x4] = none)
    (hq : ∀ h' u Sx acc cc, St mg mb a pl sa sb it0 it1 xs0 xs1 fa fi fs r0 r1 it0.size it1.size ls h' → h'.Ns a.L (up sTold (.ref Sx) m) → h'.get? Sx = some (lstO acc cc) → OutB acc (outsOf [x0, x1, x2, x3, x4] (xs0.drop i0) (xs1.drop i1)) → T17 h h' → KeepS a.X ht h' →
      Slots h' fa0 #[f0, f1, f2, f3, f4] [x0, x1, x2, x3, x4] → Lin a hl Ln LA LB ra rb h' → Q .next ⟨h', g.setIfInBounds gn .finished, d, u, os⟩) :
    wpAny (model P w) A (exec (turnS 9) (lawEnv a.L)) Q E ⟨h, g, d, tk, os⟩ := by
  have G : Gst mg mb _ L2 a.W0 a.W1 a.la a.lb it0 it1 i0 i1 xs0 xs1 _ _ a.Fn a.cl pl (dbEnv L2 pm :: lawEnv a.L :: ls) h := S.gst hn2 hL2 s5 hi0 hi1
  have D := Gst.oddX G
  have nL : a.L ≠ L2 := fun q => by
    obtain ⟨o, es, n, ho, hd⟩ := S0.ns
    rw [← q, ho] at hL0; cases hL0
  refine wpAny_Try_except (wpAny_execs_cons (wpAny_Assign_Name ?_))
  refine wpAny_Call_ofName ?_
  refine name_bui S.sys.N S.sys.B rfl rfl rfl (by rfl) (S.sys.N.no _ (by decide)) (by decide) (v := .type "list") (by decide +kernel) (by decide) ?_
  refine PyProof.Rows.callWith_type1 ?_
  refine spliced_more (q_name rfl rfl hn hrep rfl ?_)
  refine spliced_none ?_
  refine report_ok G hv hroom hA hfr hg hu hRp hgs fun h1 Sx acc cc u1 Af hSn hS hO => ?_
  have ww0 : ¬ a.L = a.W0 := fun q => by have := S.v0; rw [← q] at this; exact this.ne_ns hn
  have ww1 : ¬ a.L = a.W1 := fun q => by have := S.v1; rw [← q] at this; exact this.ne_ns hn
  have hLX : ¬ XX a.W0 a.W1 L2 a.L := fun q => by
    rcases q with q | q | q | q
    · exact ww0 q
    · exact ww1 q
    · exact nL q
    · have := S.bL; rw [q] at this; exact absurd this (by decide)
  have hn1 := Af.k.ns hLX hn
  obtain ⟨K1, S1⟩ := S0.behind K S hL0 D Af.k Af.sys Af.w0 Af.w1 Af.fr
  have l1 : Lin a hl Ln LA LB ra rb h1 := by
    obtain ⟨nn, e1⟩ := l.ln
    obtain ⟨na, e2⟩ := l.la
    obtain ⟨nb, e3⟩ := l.lb
    exact l.keep' Af.k ⟨XX.lists D e1, XX.lists D e2, XX.lists D e3⟩
  have s51 := s5.away Af.k D.slots
  refine q_store (by rfl) hn1 (by rfl) fun h2 u2 hn2' s2 => ?_
  have K2 : KeepS (· = a.L) h1 h2 := KeepS.loc s2
  refine wpAny_execs_nil ?_
  show wpAny _ _ (execs [] _) _ _ _
  refine wpAny_execs_nil ?_
  obtain ⟨n1', e1⟩ := l1.ln
  obtain ⟨n2', e2⟩ := l1.la
  obtain ⟨n3', e3⟩ := l1.lb
  have h17 : ¬ (17 : Addr) = a.L := fun q => by have := S.bL; rw [← q] at this; exact absurd this (by decide)
  exact hq h2 u2 Sx acc cc (S1.loc K2 hn2') hn2' (K2.get (S1.neL hS) hS (by simp)) hO (Af.t17.post K2 h17) (K1.trans (K2.mono fun _ q => .inr (.inr (.inr (.inr (.inl q)))))) (s51.keep (K2.mono (Y := a.X) fun _ q => .inr (.inr (.inr (.inr (.inl q))))) S1.hS S1.hT) (l1.keep' K2 ⟨S1.neL e1, S1.neL e2, S1.neL e3⟩)
end
end Mine
end
section
open PySem PySem.W PyProof.Rows PySem.Calls PySem.SeqAt
set_option maxRecDepth 100000
namespace Mine
section
variable {w : World} {A : Around} {E : Value → Shared → Prop} {h h' ht : Heap} {g : Array GenState} {d : Drawn} {tk : Nat} {os : OsState} {mg mb m m' : PySem.Str → Option Value} {a : Ad} {pl pm : Value} {sa sb it0 it1 fa fi fa0 fa1 fi1 ra rb : Array Value} {xs0 xs1 fs fs1 : List Thing} {r0 r1 i0 i1 : Nat} {ls : List Env} {t1 t2 : Tok} {Ln LA LB L2 Rp : Addr} {gn : Nat} {f0 f1 f2 f3 f4 nv : Value} {x0 x1 x2 x3 x4 x : Thing}
theorem t_try_bad {faS fiS : Array Value} {fsS : List Thing} {q0 q1 p0 p1 : Nat} {Q : Flow → Shared → Prop} (S0 : St mg mb a pl sa sb it0 it1 xs0 xs1 faS fiS fsS q0 q1 p0 p1 ls ht) (K : KeepS a.X ht h) (S : St mg mb a pl sa sb it0 it1 xs0 xs1 fa fi fs r0 r1 i0 i1 ls h)
    (hn : h.Ns a.L m) (lo : Lo a m) (hrep : m sReport = some (.ref Rp)) (hRp : h.get? Rp = some (genO gn t1 t2)) (hn2 : h.Ns L2 (fun x => (dbBinds a.Fn a.W0 a.W1 f0 f1 f2 f3 nv f4).reverse.lookup x)) (hL2 : nB ≤ L2) (hL0 : ht.get? L2 = none)
    (s5 : Slots h fa0 #[f0, f1, f2, f3, f4] [x0, x1, x2, x3, x4]) (hi0 : i0 ≤ xs0.length) (hi1 : i1 ≤ xs1.length) (hgs : g[gn]? = some (.fresh (.func dbBody (dbEnv L2 pm))))
    (hroom : A.depth + 5 < recursionLimit) (hA : A.handled = none) (hfr : A.frames = some (lawEnv a.L :: ls)) (hg : A.guards = some []) (hu : A.units + 90 < cLine)
    (hv : verdict (scan (xs0.drop i0)).2 (scan (xs1.drop i1)).2 [x0, x1, x2, x3, x4] = some x)
    (hq : ∀ h' u m' t j1, St mg mb a pl sa sb it0 it1 xs0 xs1 fa fi fs r0 r1 (i0 + (scan (xs0.drop i0)).1) j1 ls h' → h'.Ns a.L m' → Lo a m' → (∀ y, y ≠ sTold → y ≠ sFault → m' y = m y) → m' sTold = some (.str (dueOf x) t) → KeepS a.X ht h' →
      h'.get? Rp = some (genO gn t1 t2) → ((scan (xs0.drop i0)).2 = none → j1 = i1 + (scan (xs1.drop i1)).1) → ((scan (xs0.drop i0)).2 ≠ none → j1 = i1) → Q .next ⟨h', g.setIfInBounds gn .finished, d, u, os⟩) :
    wpAny (model P w) A (exec (turnS 9) (lawEnv a.L)) Q E ⟨h, g, d, tk, os⟩ := by
  have G : Gst mg mb _ L2 a.W0 a.W1 a.la a.lb it0 it1 i0 i1 xs0 xs1 _ _ a.Fn a.cl pl (dbEnv L2 pm :: lawEnv a.L :: ls) h := S.gst hn2 hL2 s5 hi0 hi1
  have D := Gst.oddX G
  have nL : a.L ≠ L2 := fun q => by
    obtain ⟨o, es, n, ho, hd⟩ := S0.ns
    rw [← q, ho] at hL0; cases hL0
  have ww0 : ¬ a.L = a.W0 := fun q => by have := S.v0; rw [← q] at this; exact this.ne_ns hn
  have ww1 : ¬ a.L = a.W1 := fun q => by have := S.v1; rw [← q] at this; exact this.ne_ns hn
  have hLX : ¬ XX a.W0 a.W1 L2 a.L := fun q => by
    rcases q with q | q | q | q
    · exact ww0 q
    · exact ww1 q
    · exact nL q
    · have := S.bL; rw [q] at this; exact absurd this (by decide)
  have oRp : ¬ XX a.W0 a.W1 L2 Rp := D.not hRp ⟨by simp [genO], by simp [genO]⟩ (by simp [genO])
  refine wpAny_Try_except (wpAny_execs_cons (wpAny_Assign_Name ?_))
  refine wpAny_Call_ofName ?_
  refine name_bui S.sys.N S.sys.B rfl rfl rfl (by rfl) (S.sys.N.no _ (by decide)) (by decide) (v := .type "list") (by decide +kernel) (by decide) ?_
  refine PyProof.Rows.callWith_type1 ?_
  refine spliced_more (q_name rfl rfl hn hrep rfl ?_)
  refine spliced_none ?_
  refine report_bad G hv hroom hA hfr hg hu hRp hgs fun h1 e tk1 j1 Af rx hj hj' => ?_
  obtain ⟨hm, t, tn, c2, km, he0, X1, htm, Sm, _⟩ := rx
  obtain ⟨hc, Xc, back⟩ := X1.cut
  have hnm := km.ns hLX hn
  refine note_exc hfr Af.fr rfl Xc fun h2 X2 F2 => ?_
  refine set_flight_none X2 F2 fun h3 X3 F3 => ?_
  have S3 : Sys mg mb h3 := Sm.keep (back h3 _ X3).1.keep Fair.nil
  refine wpAny_handleBy_builtin_as (X := "TypeError") (T := "TypeError") (b := true) sub_te_be meta_te sub_te_te ?_
  refine name_bui S3.N S3.B rfl rfl rfl (by rfl) (S3.N.no _ (by decide)) (by decide) boot_TypeError (by decide) ?_
  refine ⟨rfl, ?_, ?_⟩
  · obtain ⟨_, _, o, vs, he, hcl, _⟩ := X3; exact tyRef he hcl
  rw [if_pos rfl]
  refine set_flight_none X3 F3 fun h4 X4 F4 => ?_
  obtain ⟨Y4, k4⟩ := back h4 _ X4
  have S4 : Sys mg mb h4 := Sm.keep Y4.keep Fair.nil
  have hn4 := Y4.keep.ns id hnm
  have kX4 : KeepS (XX a.W0 a.W1 L2) h h4 := km.trans (Y4.keep.mono fun _ q => q.elim)
  have small : ∀ b, TX h1 e b → ∃ o ts, h1.get? b = some o ∧ o.data = .fields ts ∧ (o.cls = .type "TypeError" ∨ ∃ x, ts[3]? = some x) := fun b hb => by
    rcases hb with rfl | ⟨o, ts, x, ho, hd, hx⟩
    · obtain ⟨o, vs, he, hcl, hd, _⟩ := X1.obj
      exact ⟨o, vs, he, hd, .inl hcl⟩
    · exact ⟨o, ts, ho, hd, .inr ⟨x, hx⟩⟩
  obtain ⟨K4, T4⟩ := S0.behind K S hL0 D kX4 S4 (Af.w0.small k4 small) (Af.w1.small k4 small) F4
  have hRp4 := kX4.get oRp hRp (by simp [genO])
  obtain ⟨o4, vs4, he4, hc4, hd4, h04, _⟩ := Y4.obj
  have heL : e ≠ a.L := fun q => by
    obtain ⟨o, es, n, ho, hd⟩ := T4.ns
    rw [q, ho] at he4; cases he4; rw [hd] at hd4; cases hd4
  have htL : t ≠ a.L := fun q => by
    obtain ⟨o, es, n, ho, hd⟩ := T4.ns
    rw [← q, Y4.keep.get id htm (by simp)] at ho; cases ho; cases hd
  refine q_store (by rfl) hn4 (by rfl) fun h5 u5 hn5 s5' => ?_
  have K5 : KeepS (· = a.L) h4 h5 := KeepS.loc s5'
  have T5 := T4.loc K5 hn5
  refine wpAny_execs_cons (wpAny_Assign_Name ?_)
  refine wpAny_Call_ofName ?_
  refine name_bui T5.sys.N T5.sys.B rfl rfl rfl (by rfl) (T5.sys.N.no _ (by decide)) (by decide) (v := .type "str") (by decide +kernel) (by decide) ?_
  refine PyProof.Rows.callWith_type1 ?_
  refine spliced_more (q_name rfl rfl hn5 rfl rfl ?_)
  refine spliced_none ?_
  refine PySem.P.str_of_exc_one (t0 := t) (m := dueOf x) (tk := tn) PySem.F.excStr_TypeError (by show A.units + 2 < cLine; omega) ⟨o4, vs4, (s5'.2 _ heL).trans he4, hc4, hd4, (Prod.mk.inj h04).1⟩ ⟨_, _, (s5'.2 _ htL).trans (Y4.keep.get id htm (by simp)), rfl, rfl⟩ ?_
  refine q_store (by rfl) hn5 (by rfl) fun h6 u6 hn6 s6 => ?_
  refine wpAny_execs_nil ?_
  refine wpAny_nameGoes_keeps (by rfl) hn6 (by rfl) fun h7 v7 hn7 s7 => ?_
  have K7 : KeepS (· = a.L) h4 h7 := (K5.trans (KeepS.loc s6)).trans (KeepS.loc s7)
  have hRpL : Rp ≠ a.L := fun q => by
    obtain ⟨o, es, n, ho, hd⟩ := T4.ns
    rw [← q, hRp4] at ho; cases ho; cases hd
  refine hq h7 _ _ tn j1 (T4.loc K7 hn7) hn7 ⟨lo.things, lo.five, lo.wells, lo.read, lo.echo⟩ (fun y a1 a2 => ?_) rfl (K4.trans (K7.mono fun _ q => .inr (.inr (.inr (.inr (.inl q)))))) (K7.get hRpL hRp4 (by simp [genO])) hj hj'
  simp only [if_neg a1, if_neg a2]
end
end Mine
end
section
open PySem PySem.W PyProof.Rows PySem.Calls PySem.SeqAt
set_option maxRecDepth 100000
namespace Mine
theorem OutB.append {a b : Array Value} {xs ys : List Thing} (x : OutB a xs) (y : OutB b ys) : OutB (a ++ b) (xs ++ ys) := by
  refine ⟨by simp [x.1, y.1], fun j z hz => ?_⟩
  rw [List.getElem?_append] at hz
  rw [Array.getElem?_append, x.1]
  split at hz <;> rename_i hj
  · rw [if_pos hj]; exact x.2 j z hz
  · rw [if_neg hj]; exact y.2 _ z hz
theorem OutB.one {b : Array UInt8} {t : Tok} : OutB #[.bytes b t] [.bytes b] := by
  refine ⟨rfl, fun j z hz => ?_⟩
  cases j with
  | zero => cases hz; exact ⟨b, t, rfl, rfl⟩
  | succ j => simp at hz
theorem Things.outB {h : Heap} {it : Array Value} {xs : List Thing} (T : Things h it xs) (i : Nat) (hall : ∀ x ∈ xs.drop i, x.isB = true) : OutB (it.toList.drop i).toArray (xs.drop i) := by
  refine ⟨by simp [T.len], fun j y hy => ?_⟩
  have hj : i + j < xs.length := by
    have := (List.getElem?_eq_some_iff.mp hy).1
    simp at this; omega
  have hy' : xs[i + j]? = some y := by rw [List.getElem?_drop] at hy; exact hy
  have hi : i + j < it.size := by rw [T.len]; exact hj
  obtain ⟨b, t, e, ex⟩ := (T.is (i + j) it[i + j] y (by simp [hi]) hy').bytes (hall y (List.mem_of_getElem? hy))
  refine ⟨b, t, ex, ?_⟩
  simp only [List.getElem?_toArray, List.getElem?_drop]
  rw [← e]; simp [hi]
theorem OutB.pair {a b : Array Value} {zs : List Thing} (x : OutB a zs) (y : OutB b zs) : a.size = b.size ∧ ∀ (j : Nat) (h1 : j < a.size) (h2 : j < b.size), ∃ bb t u, a[j] = .bytes bb t ∧ b[j] = .bytes bb u := by
  refine ⟨x.1.trans y.1.symm, fun j h1 h2 => ?_⟩
  have hj : j < zs.length := by rw [← x.1]; exact h1
  obtain ⟨b1, t, e1, k1⟩ := x.2 j zs[j] (by simp)
  obtain ⟨b2, u, e2, k2⟩ := y.2 j zs[j] (by simp)
  rw [e1] at e2
  cases e2
  exact ⟨b1, t, u, (Array.getElem?_eq_some_iff.mp k1).2, (Array.getElem?_eq_some_iff.mp k2).2⟩
section
variable {w : World} {A : Around} {E : Value → Shared → Prop} {h h' : Heap} {g : Array GenState} {d : Drawn} {tk : Nat} {os : OsState} {mg mb m : PySem.Str → Option Value} {a : Ad} {pl : Value} {sa sb it0 it1 fa fi ra rb acc : Array Value} {xs0 xs1 fs : List Thing} {r0 r1 w0 w1 cc : Nat} {ls : List Env} {Ln LA LB Sx Rp : Addr} {f0 f1 f2 f3 f4 : Value} {t1 t2 td tt : Tok} {gn : Nat} {x : Thing}
theorem q_plus {b c : Addr} {xs ys : Array Value} {nb nc : Nat} {Q : Value → Shared → Prop} (hb : h.get? b = some (lstO xs nb)) (hc : h.get? c = some (lstO ys nc)) (hsz : xs.size + ys.size ≤ 10000)
    (hq : ∀ h2 R, Grow h h2 → h.get? R = none → h2.get? R = some (lstO (xs ++ ys) 0) → Q (.ref R) ⟨h2, g, d, tk, os⟩) : wpAny (model P w) A (binaryOp .Add (.ref b) (.ref c)) Q E ⟨h, g, d, tk, os⟩ :=
  list_plus hb hc hsz (hq _ _ (Grow.push _ _) (Heap.get?_none_of_le (Nat.le_refl _)) (Heap.get?_push_size _ rfl))
theorem t_final {zs : List Thing} {Q : Flow → Shared → Prop} (hn : h.Ns a.L m) (hdue : m sDue = some (.str sE td)) (htold : m sTold = some (.ref Sx)) (hS : h.get? Sx = some (lstO acc cc)) (hO : OutB acc zs)
    (m0 : m sOne = some f0) (m1 : m sTwo = some f1) (m2 : m sEarly = some f2) (m3 : m sLate = some f3) (m4 : m sEnd = some f4) (hln : m sLines = some (.ref Ln))
    (ln : ∃ n, h.get? Ln = some (lstO #[.ref LA, .ref LB] n)) (la : ∃ n, h.get? LA = some (lstO ra n)) (lb : ∃ n, h.get? LB = some (lstO rb n)) (hra : ra.size ≤ 1000) (hrb : rb.size ≤ 1000) (hu : A.units + 10 < cLine)
    (hE : ∀ t, OutB (((#[f0, f1, f2, f3, f4] ++ ra) ++ #[.bytes #[124] t]) ++ rb) zs) (hq : ∀ h' u, Grow h h' → Q (.ret (.bool true)) ⟨h', g, d, u, os⟩) :
    wpAny (model P w) A (exec (turnS 10) (lawEnv a.L)) Q E ⟨h, g, d, tk, os⟩ := by
  obtain ⟨n0, ln⟩ := ln
  obtain ⟨n1, la⟩ := la
  obtain ⟨n2, lb⟩ := lb
  refine wpAny_If ?_
  refine wpAny_isTrue_Compare1 ?_
  refine q_name rfl rfl hn hdue rfl ?_
  refine q_str fun te ue => ?_
  refine q_eq (RcAt.str_str sE td sE te) ?_
  rw [beq_self_eq_true, if_pos rfl]
  refine wpAny_execs_cons (wpAny_Return_some (wpAny_Compare1 ?_))
  refine q_name rfl rfl hn htold rfl ?_
  refine wpAny_BinOp (wpAny_BinOp (wpAny_BinOp (q_list ?_)))
  refine spliced_more (q_name rfl rfl hn m0 rfl ?_)
  refine spliced_more (q_name rfl rfl hn m1 rfl ?_)
  refine spliced_more (q_name rfl rfl hn m2 rfl ?_)
  refine spliced_more (q_name rfl rfl hn m3 rfl ?_)
  refine spliced_more (q_name rfl rfl hn m4 rfl ?_)
  refine spliced_none ⟨by show 5 ≤ 1000; decide, h, _, rfl, fun h1 R1 k1 _ _ hR1 => ?_⟩
  refine Subscript_ ?_
  refine q_name rfl rfl (hn.keeps k1) hln rfl ?_
  refine q_int fun _ _ => ?_
  refine q_item (n := 0) ⟨_, k1 _ _ ln, rfl, _, rfl⟩ rfl (by decide) rfl ?_
  refine q_plus hR1 (k1 _ _ la) (by simp; omega) fun h2 R2 k2 _ hR2 => ?_
  refine q_list (spliced_more (q_bytes fun tb _ => ?_))
  refine spliced_none ⟨by show 1 ≤ 1000; decide, h2, _, rfl, fun h3 R3 k3 _ _ hR3 => ?_⟩
  refine q_plus (k3 _ _ hR2) hR3 (by simp; omega) fun h4 R4 k4 _ hR4 => ?_
  have k04 := ((k1.trans k2).trans k3).trans k4
  refine Subscript_ ?_
  refine q_name rfl rfl (hn.keeps k04) hln rfl ?_
  refine q_int fun _ _ => ?_
  refine q_item (n := 1) ⟨_, k04 _ _ ln, rfl, _, rfl⟩ rfl (by decide) rfl ?_
  refine q_plus hR4 (k04 _ _ lb) (by simp; omega) fun h5 R5 k5 _ hR5 => ?_
  have k05 := k04.trans k5
  obtain ⟨hsz, hp⟩ := hO.pair (hE tb)
  have := fun u => RcAt.lists (A := A) (s := ⟨h5, g, d, u, os⟩) (e := fun _ => true) ⟨_, k05 _ _ hS, rfl, _, rfl⟩ ⟨_, hR5, rfl, _, rfl⟩ hsz (by omega) (fun j h1 h2 => by
    obtain ⟨bb, t, ub, e1, e2⟩ := hp j h1 h2
    have e2' : ((((#[f0, f1, f2, f3, f4] ++ ra) ++ #[.bytes #[124] tb]) ++ rb) : Array Value)[j]'h2 = .bytes bb ub := e2
    show EqAt _ _ acc[j] _ _
    rw [e1]
    have := eq_bytes (A := A.in1) (s := ⟨h5, g, d, u, os⟩) bb t ub
    rw [← e2'] at this
    exact this)
  refine (this _) _ _ _ _ ?_
  rw [show (List.range acc.size).all (fun _ => true) = true by simp]
  exact hq _ _ k05
end
end Mine
end
section
open PySem PySem.W PyProof.Rows PySem.Calls PySem.SeqAt
set_option maxRecDepth 100000
namespace Mine
def bads (xs : List Thing) : Nat := xs.countP fun x => !x.isB
theorem bads_cons (x : Thing) (xs : List Thing) : bads (x :: xs) = bads xs + if x.isB then 0 else 1 := by
  unfold bads
  rw [List.countP_cons]
  cases x.isB <;> simp
theorem bads_drop (xs : List Thing) (i k : Nat) : bads (xs.drop (i + k)) ≤ bads (xs.drop i) := by
  rw [← List.drop_drop]
  exact (List.drop_sublist k _).countP_le
theorem bads_le (xs : List Thing) : bads xs ≤ xs.length := List.countP_le_length
theorem scan_le (xs : List Thing) : (scan xs).1 ≤ xs.length := by
  induction xs with
  | nil => exact Nat.le_refl _
  | cons x xs ih => unfold scan; split <;> simp <;> omega
theorem scan_bads {xs : List Thing} {x : Thing} (h : (scan xs).2 = some x) : bads (xs.drop (scan xs).1) < bads xs := by
  induction xs with
  | nil => cases h
  | cons y xs ih =>
    rw [bads_cons]
    unfold scan at h ⊢
    cases hb : y.isB with
    | true => simp only [hb, if_true] at h ⊢; rw [List.drop_succ_cons]; have := ih h; simpa using this
    | false => simp
theorem fix_le (fs : List Thing) : bads (fixFirst fs) ≤ bads fs := by
  induction fs with
  | nil => exact Nat.le_refl _
  | cons x xs ih =>
    unfold fixFirst
    split
    · rw [bads_cons, bads_cons]; omega
    · rw [bads_cons, bads_cons]
      have : (Thing.bytes #[]).isB = true := rfl
      rw [if_pos this]; omega
theorem fix_lt {fs : List Thing} {x : Thing} (h : badOf fs = some x) : bads (fixFirst fs) < bads fs := by
  induction fs with
  | nil => cases h
  | cons y xs ih =>
    unfold fixFirst
    cases hb : y.isB with
    | true =>
      have : badOf xs = some x := by
        have h : List.find? (fun x => !x.isB) (y :: xs) = some x := h
        rw [List.find?_cons] at h
        simpa [hb] using h
      rw [if_pos rfl, bads_cons, bads_cons]
      have := ih this
      omega
    | false =>
      rw [if_neg (by simp), bads_cons, bads_cons, hb]
      have : (Thing.bytes #[]).isB = true := rfl
      rw [if_pos this, if_neg (by simp)]; omega
theorem newFs_le (v : Option Thing) (fs : List Thing) : bads (newFs v fs) ≤ bads fs := by
  cases v with
  | none => exact fix_le fs
  | some x => exact Nat.le_refl _
section
variable {w : World} {A : Around} {E : Value → Shared → Prop} {h h' : Heap} {g : Array GenState} {d : Drawn} {tk : Nat} {os : OsState} {mg mb m : PySem.Str → Option Value} {a : Ad} {pl : Value} {sa sb it0 it1 fa fi ra rb acc : Array Value} {xs0 xs1 fs : List Thing} {r0 r1 w0 w1 cc : Nat} {ls : List Env} {Ln LA LB Sx Rp : Addr} {f0 f1 f2 f3 f4 : Value} {t1 t2 td tt : Tok} {gn : Nat} {x : Thing}
theorem gen_none {b : Addr} {Q : Option Value → Shared → Prop} (hh : A.handled = none) (hg : h.IsGen b gn) (hgs : g[gn]? = some .finished) (hq : ∀ h', Grow h h' → Q none ⟨h', g, d, tk, os⟩) : wpAny (model P w) A (pyNext (.ref b)) Q E ⟨h, g, d, tk, os⟩ := by
  unfold pyNext
  refine wpAny_bind (wpAny_attempt (wpAny_callSpecial?_slot (name := PySem.Str.ofString "__next__") hg.typeIs slot_gen_next (gen_over hh hg hgs fun h1 e k1 he => ?_)))
  obtain ⟨o, ho, hc⟩ := he
  refine wpAny_bind (wpAny_isInstance (tyRef ho hc) sub_si_si ?_)
  exact wpAny_pure (hq h1 k1)
theorem t_go {Q : Flow → Shared → Prop} (S : St mg mb a pl sa sb it0 it1 xs0 xs1 fa fi fs r0 r1 w0 w1 ls h) (hn : h.Ns a.L m) (hdue : m sDue = some (.str (dueOf x) td)) (htold : m sTold = some (.str (dueOf x) tt)) (hrep : m sReport = some (.ref Rp))
    (hRp : h.get? Rp = some (genO gn t1 t2)) (hgs : g[gn]? = some .finished) (hA : A.handled = none) (hu : A.units + 10 < cLine) (hq : ∀ h' u, Grow h h' → Q .next ⟨h', g, d, u, os⟩) :
    wpAny (model P w) A (execs [turnS 10, turnS 11] (lawEnv a.L)) Q E ⟨h, g, d, tk, os⟩ := by
  refine wpAny_execs_cons (wpAny_If ?_)
  refine wpAny_isTrue_Compare1 ?_
  refine q_name rfl rfl hn hdue rfl ?_
  refine q_str fun te ue => ?_
  refine q_eq (RcAt.str_str (dueOf x) td sE te) ?_
  rw [dueOf_ne, if_neg (by simp)]
  refine wpAny_execs_nil ?_
  show wpAny _ _ (execs [turnS 11] _) _ _ _
  refine wpAny_execs_cons (wpAny_If ?_)
  refine isTrue_or ?_
  refine wpAny_isTrue_Compare1 ?_
  refine q_name rfl rfl hn htold rfl ?_
  refine q_name rfl rfl hn hdue rfl ?_
  refine q_ne (k := false) ?_ ?_
  · have := RcNeAt.str_str (A := A) (s := ⟨h, g, d, ue, os⟩) (dueOf x) tt (dueOf x) td
    simpa using this
  rw [if_neg (by simp)]
  refine isTrue_or ?_
  refine wpAny_isTrue_Compare1 ?_
  refine wpAny_Call_ofName ?_
  refine name_bui S.sys.N S.sys.B rfl rfl rfl (by rfl) (S.sys.N.no _ (by decide)) (by decide) (v := .builtin "next") (by decide +kernel) (by decide) ?_
  refine PyProof.Rows.callWith_builtin1 ?_
  refine spliced_more (q_name rfl rfl hn hrep rfl ?_)
  refine spliced_more (q_str fun tO uO => ?_)
  refine spliced_none ?_
  refine q_next2 (T := "generator") ⟨_, hRp, rfl⟩ slot_gen_next ?_
  refine gen_none (A := A.in1) hA (isGen_of hRp) hgs fun h1 k1 => ?_
  refine q_str fun t3 u3 => ?_
  refine q_ne (k := false) ?_ ?_
  · have := RcNeAt.str_str (A := A) (s := ⟨h1, g, d, u3, os⟩) sOver tO sOver t3
    simpa using this
  rw [if_neg (by simp)]
  refine isTrue_or_nil ?_
  rw [if_neg (by simp)]
  refine wpAny_execs_nil ?_
  show wpAny _ _ (execs [] _) _ _ _
  exact wpAny_execs_nil (hq h1 u3 k1)
end
end Mine
end
section
open PySem PySem.W PyProof.Rows PySem.Calls PySem.SeqAt
set_option maxRecDepth 100000
namespace Mine
theorem lawTurn_eq : lawTurn = [turnS 0, turnS 1, turnS 2, turnS 3, turnS 4, turnS 5, turnS 6, turnS 7, turnS 8, turnS 9, turnS 10, turnS 11] := by kernel_rfl
section
variable {w : World} {A : Around} {E : Value → Shared → Prop} {h h' : Heap} {g : Array GenState} {d : Drawn} {tk : Nat} {os : OsState} {mg mb m : PySem.Str → Option Value} {a : Ad} {pl : Value} {sa sb it0 it1 fa fi : Array Value} {xs0 xs1 fs : List Thing} {r0 r1 w0 w1 : Nat} {ls : List Env}
theorem St.ex (s : St mg mb a pl sa sb it0 it1 xs0 xs1 fa fi fs r0 r1 w0 w1 ls h) {b : Addr} (q : a.X b) : ∃ o, h.get? b = some o := by
  rcases q with q | q | q | q | q | q
  · obtain ⟨n, t, u, e⟩ := s.rd; exact ⟨_, q ▸ e⟩
  · obtain ⟨n, e⟩ := s.fv; exact ⟨_, q ▸ e⟩
  · obtain ⟨o, e, _⟩ := s.v0.it; exact ⟨_, q ▸ e⟩
  · obtain ⟨o, e, _⟩ := s.v1.it; exact ⟨_, q ▸ e⟩
  · obtain ⟨o, es, n, e, _⟩ := s.ns; exact ⟨_, q ▸ e⟩
  · obtain ⟨ps, e⟩ := s.tk; exact ⟨_, q ▸ e⟩
theorem St.nX (s : St mg mb a pl sa sb it0 it1 xs0 xs1 fa fi fs r0 r1 w0 w1 ls h) {b : Addr} (hb : h.get? b = none) : ¬ a.X b := fun q => by
  obtain ⟨o, ho⟩ := s.ex q
  rw [hb] at ho; cases ho
theorem verdict_eq (v0 v1 : Option Thing) (fs : List Thing) : verdict v0 v1 fs = (v0.orElse fun _ => v1).orElse fun _ => badOf fs := by
  cases v0 <;> cases v1 <;> rfl
theorem bare_set {g : Array GenState} {i : Nat} {y : GenState} (x : AllBare g) (hy : y.bare = true) : AllBare (g.setIfInBounds i y) := fun z hz => by
  obtain ⟨j, hj, e⟩ := Array.mem_iff_getElem.mp hz
  have hj' : j < g.size := by simpa using hj
  rw [Array.getElem_setIfInBounds hj'] at e
  split at e
  · rw [← e]; exact hy
  · rw [← e]; exact x _ (Array.getElem_mem _)
abbrev T17e (h : Heap) : Prop := ∃ ps, h.get? 17 = some { cls := .none, data := .fields ps }
/-- a turn of law's loop -/
theorem turn {Q : Flow → Shared → Prop} (S : St mg mb a pl sa sb it0 it1 xs0 xs1 fa fi fs r0 r1 r0 r1 ls h) (hn : h.Ns a.L m) (lo : Lo a m) (hr0 : r0 ≤ xs0.length) (hr1 : r1 ≤ xs1.length)
    (hroom : A.depth + 5 < recursionLimit) (hA : A.handled = none) (hfr : A.frames = some (lawEnv a.L :: ls)) (hg : A.guards = some []) (hu : A.units + 90 < cLine)
    (hG : AllBare g) (hT : ∀ h' g' u, KeepS a.X h h' → AllBare g' → T17e h' → Q (.ret (.bool true)) ⟨h', g', d, u, os⟩)
    (hN : ∀ h' g' u m' fa' fi' fs' r0' r1', KeepS a.X h h' → AllBare g' → St mg mb a pl sa sb it0 it1 xs0 xs1 fa' fi' fs' r0' r1' r0' r1' ls h' → h'.Ns a.L m' → Lo a m' → r0' ≤ xs0.length → r1' ≤ xs1.length →
      bads (xs0.drop r0') + bads (xs1.drop r1') + bads fs' < bads (xs0.drop r0) + bads (xs1.drop r1) + bads fs → Q .next ⟨h', g', d, u, os⟩) :
    wpAny (model P w) A (execs lawTurn (lawEnv a.L)) Q E ⟨h, g, d, tk, os⟩ := by
  rw [lawTurn_eq]
  have mL : ∀ b, b = a.L → a.X b := fun _ q => .inr (.inr (.inr (.inr (.inl q))))
  have mRL : ∀ b, (b = a.Rd ∨ b = a.L) → a.X b := fun _ q => q.elim .inl fun q => .inr (.inr (.inr (.inr (.inl q))))
  have mFL : ∀ b, (b = a.Fv ∨ b = a.L) → a.X b := fun _ q => q.elim (fun q => .inr (.inl q)) fun q => .inr (.inr (.inr (.inr (.inl q))))
  obtain ⟨x0, x1, x2, x3, x4, hfs⟩ := list5 S.five
  refine wpAny_execs_cons (t_unpack S hn lo hA fun h1 u1 f0 f1 f2 f3 f4 hfe K1 S1 hn1 => ?_)
  show wpAny _ _ (execs _ _) _ _ _
  refine wpAny_execs_cons (t_report S1 hn1 ⟨lo.things, lo.five, lo.wells, lo.read, lo.echo⟩ (by omega) rfl rfl rfl rfl rfl fun h2 pm L2 Rp t1 t2 nv u2 K2 S2 hn2 hnL hRp hL2 hL0 hR0 hLL => ?_)
  show wpAny _ _ (execs _ _) _ _ _
  generalize hg2 : g.push (.fresh (.func dbBody (dbEnv L2 pm))) = g2
  have hG2 : AllBare g2 := hg2 ▸ hG.push rfl
  have hgs : g2[g.size]? = some (.fresh (.func dbBody (dbEnv L2 pm))) := by rw [← hg2]; simp
  generalize hgn : g.size = gn at hRp hgs
  refine wpAny_execs_cons (t_straight S2 hn2 ⟨lo.things, lo.five, lo.wells, lo.read, lo.echo⟩ hA hr0 fun h3 D n3 u3 K3 hD0 hD S3 hn3 => ?_)
  show wpAny _ _ (execs _ _) _ _ _
  refine wpAny_execs_cons (t_check S3 hn3 ⟨lo.things, lo.five, lo.wells, lo.read, lo.echo⟩ hA (by omega) hr0 rfl hD fun h4 u4 K4 S4 hn4 => ?_)
  show wpAny _ _ (execs _ _) _ _ _
  have hDW : ¬ D = a.W0 := fun q => by
    obtain ⟨o, ho, hc, _⟩ := S3.v0.it
    rw [← q, hD] at ho; cases ho; exact absurd hc (by simp)
  refine wpAny_execs_cons (t_len S4 hn4 ⟨lo.things, lo.five, lo.wells, lo.read, lo.echo⟩ rfl (K4.get hDW hD (by simp)) (by simp; omega) fun h5 u5 K5 S5 hn5 => ?_)
  show wpAny _ _ (execs _ _) _ _ _
  have hlen : it0.size = xs0.length := S.s0.len'
  have hds : r0 + ((it0.toList.drop r0).take 1).toArray.size = min (r0 + 1) xs0.length := by simp; omega
  rw [hds] at S5
  generalize hi0 : min (r0 + 1) xs0.length = i0 at S5
  have hi0l : i0 ≤ xs0.length := by omega
  refine t_lines S5 hn5 fun h6 u6 Ln LA LB K6 S6 l6 hn6 u6' => ?_
  refine wpAny_execs_cons (t_rows S5 hA (by omega) hi0l hr1 (K6.mono fun _ q => .inr q) S6.rd hn6 ⟨lo.things, lo.five, lo.wells, lo.read, lo.echo⟩ rfl rfl l6 fun h7 m7 u7 n1 hn1' kb7 rd7 hn7 lo7 hm7 hd7 l7 => ?_)
  show wpAny _ _ (execs _ _) _ _ _
  have S7 := S5.cnt kb7 rd7 hn7
  refine wpAny_execs_cons (t_five S7 hA hn7 lo7 hd7 fun h8 m8 u8 fa8 fi8 K8 S8 hn8 lo8 hm8 hd8 => ?_)
  show wpAny _ _ (execs _ _) _ _ _
  -- what the generator needs
  have KX : KeepS a.X h2 h8 := ((((K3.mono mL).trans (K4.mono fun _ q => .inr (.inr (.inl q)))).trans (K5.mono fun _ q => .inl q)).trans (kb7.mono mRL)).trans (K8.mono mFL)
  have KX1 : KeepS a.X h1 h8 := (K2.mono mL).trans KX
  have nL2 : ¬ a.X L2 := S1.nX hL0
  have nRp : ¬ a.X Rp := S1.nX hR0
  have hnL8 := KX.ns nL2 hnL
  have hRp8 := KX.get nRp hRp (by simp [genO])
  have s58 : Slots h8 fa fi fs := S2.s5.keep KX S2.hS S2.hT
  rw [hfe, hfs] at s58
  have l8 : Lin a h5 Ln LA LB _ _ h8 := l7.keep K8 fun b q => by
    rcases q with q | q
    · obtain ⟨n, e⟩ := S5.fv; exact ⟨_, q ▸ e⟩
    · obtain ⟨o, es, n, e, _⟩ := S5.ns; exact ⟨_, q ▸ e⟩
  have hm8' : ∀ y, y ≠ sThing → y ≠ sDue → y ≠ sK → m8 y = (up sDue (.str sE u6) (up sLines (.ref Ln) (up (PySem.Str.ofString "straight") (.ref D) (up (PySem.Str.ofString "report") (.ref Rp) (up sEnd f4 (up sLate f3 (up sEarly f2 (up sTwo f1 (up sOne f0 m))))))))) y := fun y a1 a2 a3 => (hm8 y a2 a3).trans (hm7 y a1 a2 a3)
  have hrep8 : m8 sReport = some (.ref Rp) := (hm8' _ (by decide) (by decide) (by decide)).trans rfl
  obtain ⟨td, hd8⟩ := hd8
  rw [← verdict_eq] at hd8
  have hb0 : bads (xs0.drop i0) ≤ bads (xs0.drop r0) := by
    have : i0 = r0 + (i0 - r0) := by omega
    rw [this]; exact bads_drop _ _ _
  cases hv : verdict (scan (xs0.drop i0)).2 (scan (xs1.drop r1)).2 fs with
  | none =>
    rw [hv] at hd8
    rw [hfs] at hv
    refine wpAny_execs_cons (t_try_ok S1 KX1 S8 hn8 lo8 hrep8 hRp8 hnL8 hL2 hL0 s58 l8 hi0l hr1 hgs hroom hA hfr hg hu hv fun h9 u9 Sx acc cc S9 hn9 hSx hO _ K9 s59 l9 => ?_)
    show wpAny _ _ (execs _ _) _ _ _
    have e0 : (scan (xs0.drop i0)).2 = none := by
      cases hz : (scan (xs0.drop i0)).2 with
      | none => rfl
      | some y => rw [hz] at hv; cases hv
    have e1 : (scan (xs1.drop r1)).2 = none := by
      cases hz : (scan (xs1.drop r1)).2 with
      | none => rfl
      | some y => rw [hz, e0] at hv; cases hv
    have e5 : ∀ x ∈ [x0, x1, x2, x3, x4], x.isB = true := by
      rw [e0, e1] at hv
      have : List.find? (fun x => !x.isB) [x0, x1, x2, x3, x4] = none := hv
      rw [List.find?_eq_none] at this
      intro x hx
      have := this x hx
      simpa using this
    obtain ⟨c0, b0⟩ := scan_none e0
    obtain ⟨c1, b1⟩ := scan_none e1
    have hlen1 : it1.size = xs1.length := S.s1.len'
    have hra : ((it0.toList.drop i0).take (scan (xs0.drop i0)).1) = it0.toList.drop i0 := List.take_of_length_le (by rw [c0]; simp; omega)
    have hrb : ((it1.toList.drop r1).take n1) = it1.toList.drop r1 := List.take_of_length_le (by rw [hn1', if_pos e0, c1]; simp; omega)
    rw [hra, hrb] at l9
    have z0 := S.z0
    have z1 := S.z1
    refine wpAny_execs_cons (t_final hn9 (td := td) ?_ rfl hSx hO (f0 := f0) (f1 := f1) (f2 := f2) (f3 := f3) (f4 := f4) (Ln := Ln) ?_ ?_ ?_ ?_ ?_ ?_ l9.ln l9.la l9.lb (by simp; omega) (by simp; omega) (by omega) (fun t => ?_) fun h10 u10 k10 => hT h10 _ u10 (((K1.mono mL).trans K9).trans ((KeepS.of_grow k10 : KeepS Nil _ _).mono fun _ q => q.elim)) (bare_set hG2 rfl) (by obtain ⟨ps, e⟩ := S9.sys.t17; exact ⟨ps, k10 _ _ e⟩))
    · exact hd8
    · exact (hm8' _ (by decide) (by decide) (by decide)).trans rfl
    · exact (hm8' _ (by decide) (by decide) (by decide)).trans rfl
    · exact (hm8' _ (by decide) (by decide) (by decide)).trans rfl
    · exact (hm8' _ (by decide) (by decide) (by decide)).trans rfl
    · exact (hm8' _ (by decide) (by decide) (by decide)).trans rfl
    · exact (hm8' _ (by decide) (by decide) (by decide)).trans rfl
    · refine OutB.append (OutB.append (OutB.append ?_ (S9.s0.things.outB i0 b0)) OutB.one) (S9.s1.things.outB r1 b1)
      exact s59.things.outB 0 e5
  | some x =>
    rw [hv] at hd8
    have hv' := hv
    rw [hfs] at hv
    refine wpAny_execs_cons (t_try_bad S1 KX1 S8 hn8 lo8 hrep8 hRp8 hnL8 hL2 hL0 s58 hi0l hr1 hgs hroom hA hfr hg hu hv fun h9 u9 m9 tt j1 S9 hn9 lo9 hm9 htold K9 hRp9 hj hj' => ?_)
    show wpAny _ _ (execs _ _) _ _ _
    have hgn2 : gn < g2.size := (Array.getElem?_eq_some_iff.mp hgs).1
    refine t_go S9 hn9 ((hm9 _ (by decide) (by decide)).trans hd8) htold ((hm9 _ (by decide) (by decide)).trans hrep8) hRp9 (by simp [hgn2]) hA (by omega) fun h10 u10 k10 => ?_
    have K10 : KeepS Nil h9 h10 := .of_grow k10
    have hj1 : j1 = r1 + n1 := by
      rw [hn1']
      by_cases hz : (scan (xs0.drop i0)).2 = none
      · rw [if_pos hz]; exact hj hz
      · rw [if_neg hz]; exact hj' hz
    rw [hj1] at S9
    have hsc0 := scan_le (xs0.drop i0)
    have hsc1 := scan_le (xs1.drop r1)
    have hl0 : i0 + (scan (xs0.drop i0)).1 ≤ xs0.length := by
      rw [List.length_drop] at hsc0; omega
    have hl1 : r1 + n1 ≤ xs1.length := by
      rw [List.length_drop] at hsc1
      rw [hn1']; split <;> omega
    refine hN h10 _ u10 m9 fa8 fi8 _ (i0 + (scan (xs0.drop i0)).1) (r1 + n1) (((K1.mono mL).trans K9).trans (K10.mono fun _ q => q.elim)) (bare_set hG2 rfl) (S9.nil K10) (K10.ns id hn9) lo9 hl0 hl1 ?_
    have d0 := bads_drop xs0 i0 (scan (xs0.drop i0)).1
    have d1 := bads_drop xs1 r1 n1
    cases hz0 : (scan (xs0.drop i0)).2 with
    | some y =>
      have d5 := newFs_le (some y) fs
      have := scan_bads hz0
      rw [List.drop_drop] at this
      show bads (xs0.drop (i0 + (scan (xs0.drop i0)).1)) + bads (xs1.drop (r1 + n1)) + bads (newFs (some y) fs) < _
      omega
    | none =>
      rw [if_pos hz0] at hn1'
      cases hz1 : (scan (xs1.drop r1)).2 with
      | some y =>
        have d5 := newFs_le (some y) fs
        have := scan_bads hz1
        rw [List.drop_drop, ← hn1'] at this
        show bads (xs0.drop (i0 + (scan (xs0.drop i0)).1)) + bads (xs1.drop (r1 + n1)) + bads (newFs (some y) fs) < _
        omega
      | none =>
        rw [hz0, hz1] at hv'
        have := fix_lt (x := x) hv'
        show bads (xs0.drop (i0 + (scan (xs0.drop i0)).1)) + bads (xs1.drop (r1 + n1)) + bads (fixFirst fs) < _
        omega
end
end Mine
end
section
open PySem PySem.W PyProof.Rows PySem.Calls PySem.SeqAt
set_option maxRecDepth 100000
namespace Mine
def lawS (i : Nat) : Stmt := lawBody.getD i default
theorem lawBody_eq : lawBody = [lawS 0, lawS 1, lawS 2, lawS 3, lawS 4, lawS 5, lawS 6, lawS 7] := by kernel_rfl
abbrev sScript := PySem.Str.ofString "script"
abbrev sTurn := PySem.Str.ofString "turn"
section
variable {w : World} {A : Around} {E : Value → Shared → Prop} {h h' : Heap} {g : Array GenState} {d : Drawn} {tk : Nat} {os : OsState} {mg mb m : PySem.Str → Option Value} {a : Ad} {pl : Value} {sa sb it0 it1 fa fi items : Array Value} {xs0 xs1 fs : List Thing} {r0 r1 w0 w1 : Nat} {ls : List Env} {sc : Addr}
/-- range(N) walked: the iterator -/
theorem range_walk2 {env : Env} {e : Expr} {rp rpos : Pos} {K : Value → Shared → Prop} {N : Nat} (Nm : Names mg mb) (B : Base mg mb h) (hA : A.handled = none)
    (hk : env.scope.kind = .function) (hg : env.globals = mainGlobals) (hb : env.builtins = builtinsNs) (hx : env.kindOf (PySem.Str.ofString "range") = some .globalImplicit) (hN : N < 100000)
    (hse : starEach [e] env = [(false, eval e env)])
    (h1 : wpAny (model P w) A (eval e env) (fun v s₁ => ∃ t h1 tk1, v = .int N t ∧ s₁ = ⟨h1, g, d, tk1, os⟩ ∧ 
      ∀ h2 I tk2, Grow h1 h2 → h1.get? I = none → h1.objs.size ≤ I → IsRangeIter h2 I (0 + ((0 : Nat) : Int) * 1) ((N : Int) - ((0 : Nat) : Int)) 1 → Walks P w A I [I] [I] N (fun i v => ∃ t, v = .int (0 + i * 1) t) (fun i h => IsRangeIter h I (0 + (i : Nat) * 1) ((N : Int) - (i : Nat)) 1) → K (.ref I) ⟨h2, g, d, tk2, os⟩) E ⟨h, g, d, tk, os⟩) :
    wpAny (model P w) A (eval (.Call (.Name (PySem.Str.ofString "range") rp) [e] [] rpos) env) (fun xv s₁ => wpAny (model P w) A (pyIter xv) K E s₁) E ⟨h, g, d, tk, os⟩ := by
  refine wpAny_Call_ofName ?_
  refine name_bui Nm B hk hg hb hx (Nm.no _ (by decide)) (by decide) (v := .type "range") (by decide +kernel) (by decide) ?_
  refine PyProof.Rows.callWith_type1 ?_ hse
  rw [hse]
  refine spliced_cons (wpAny_mono h1 (fun v s₁ h1 => ?_) fun _ _ q => q)
  obtain ⟨t, h1, tk1, rfl, rfl, hK⟩ := h1
  refine spliced_nil ?_
  refine call_range_1 ?_
  refine wpAny_pyIter_range (IsRange.new ..) (small_one (by decide) (by decide) (by omega) (by omega)) ?_
  have hsz : Builtin.Range.rangeSize 0 N 1 = (N : Int) := by rw [rangeSize_one]; split <;> omega
  refine hK _ _ _ (fun _ _ e => Heap.get?_push_of_some _ (Heap.get?_push_of_some _ e)) (Heap.get?_none_of_le (by simp [Heap.size_push])) (by simp [Heap.size_push]) ?_ (Walks.range hA _ 0 1 N)
  have e1 : (0 + ((0 : Nat) : Int) * 1) = 0 := by simp
  have e2 : ((N : Int) - ((0 : Nat) : Int)) = Builtin.Range.rangeSize 0 N 1 := by rw [hsz]; simp
  rw [e1, e2]
  exact Heap.get?_push_size _ rfl
theorem St.side {ht : Heap} {faS fiS : Array Value} {fsS : List Thing} {q0 q1 p0 p1 : Nat} {I : Addr} {o : Obj} {vs : Array Value} (S0 : St mg mb a pl sa sb it0 it1 xs0 xs1 faS fiS fsS q0 q1 p0 p1 ls ht) (K : KeepS a.X ht h) (S : St mg mb a pl sa sb it0 it1 xs0 xs1 fa fi fs r0 r1 w0 w1 ls h)
    (hI0 : ht.get? I = none) (hIb : nB ≤ I) (hI : h.get? I = some o) (hc : o.cls = .type "range_iterator") (hd : o.data = .fields vs) (k : KeepS (· = I) h h') : KeepS a.X ht h' ∧ St mg mb a pl sa sb it0 it1 xs0 xs1 fa fi fs r0 r1 w0 w1 ls h' := by
  have K' : KeepS a.X ht h' := K.drop k fun b q _ => q ▸ hI0
  have ne : ∀ {b ob}, h.get? b = some ob → ob.cls ≠ .type "range_iterator" → ¬ b = I := fun e q r => by rw [r, hI] at e; cases e; exact q hc
  have fair : Fair (· = I) h := Fair.cls hI (by rw [hc]; decide) hIb
  obtain ⟨nF, hF⟩ := S.fv
  obtain ⟨nR, tR, uR, hR⟩ := S.rd
  obtain ⟨o0, ho0, hc0, _⟩ := S.v0.it
  obtain ⟨o1, ho1, hc1, _⟩ := S.v1.it
  obtain ⟨l0, hl0, hcl0, _⟩ := S.v0.lst
  obtain ⟨l1, hl1, hcl1, _⟩ := S.v1.lst
  refine ⟨K', S0.step K' (S.sys.keep k fair) ⟨nF, k.get (ne hF (by simp)) hF (by simp)⟩ (S.s5.away k fun b ob vs' n q e hq => ?_) S.five ⟨nR, tR, uR, k.get (ne hR (by simp)) hR (by simp)⟩ (S.v0.keep k (ne ho0 (by rw [hc0]; decide)) (ne hl0 (by rw [hcl0]; decide))) (S.v1.keep k (ne ho1 (by rw [hc1]; decide)) (ne hl1 (by rw [hcl1]; decide))) ?_⟩
  · subst q; rw [hI] at e; cases e; rw [hd] at hq; cases hq
  · refine S.fr.keep k fun env he L' hf q => ?_
    exact S.fr.not_mem hI (fun es n q => by rw [hd] at q; cases q) env he (q ▸ hf)
theorem t_loop {rest : List Stmt} {Q : Flow → Shared → Prop} (S : St mg mb a pl sa sb it0 it1 xs0 xs1 fa fi fs 0 0 0 0 ls h) (hn : h.Ns a.L m) (lo : Lo a m) (hsc : m sScript = some (.ref sc)) (hl : h.IsList sc items) (hz : items.size < 1000)
    (hroom : A.depth + 5 < recursionLimit) (hA : A.handled = none) (hfr : A.frames = some (lawEnv a.L :: ls)) (hg : A.guards = some []) (hu : A.units + 90 < cLine)
    (hm : bads xs0 + bads xs1 + bads fs < items.size + 9) (hG : AllBare g) (hT : ∀ h' g' u, KeepS a.X h h' → AllBare g' → T17e h' → Q (.ret (.bool true)) ⟨h', g', d, u, os⟩) :
    wpAny (model P w) A (execs (lawS 6 :: rest) (lawEnv a.L)) Q E ⟨h, g, d, tk, os⟩ := by
  refine wpAny_execs_cons (wpAny_For ?_)
  refine range_walk2 (N := items.size + 9) S.sys.N S.sys.B hA rfl rfl rfl (by rfl) (by omega) (by rfl) ?_
  refine wpAny_BinOp ?_
  refine wpAny_Call_ofName ?_
  refine name_bui S.sys.N S.sys.B rfl rfl rfl (by rfl) (S.sys.N.no _ (by decide)) (by decide) (v := .builtin "len") (by decide +kernel) (by decide) ?_
  refine PyProof.Rows.callWith_builtin1 ?_
  refine spliced_more (q_name rfl rfl hn hsc rfl ?_)
  refine spliced_none ?_
  refine q_len hl (by omega) fun _ _ => ?_
  refine q_int fun _ _ => ?_
  refine q_add fun tN uN => ⟨tN, h, uN, by simp, rfl, fun h1 I u1 k1 hI0 hIz hI W => ?_⟩
  have K1 : KeepS Nil h h1 := .of_grow k1
  have hRI : ∀ {hh : Heap} {p q r : Int}, IsRangeIter hh I p q r → ∀ {fa fi : Array Value} {fs : List Thing} {r0 r1 w0 w1 : Nat}, St mg mb a pl sa sb it0 it1 xs0 xs1 fa fi fs r0 r1 w0 w1 ls hh → ¬ a.X I := fun e _ _ _ _ _ _ _ s => s.other e (by simp) (by simp) (by simp) (by simp)
  have toK : ∀ {hx hy : Heap}, (∀ b o, b ∉ [I] → hx.get? b = some o → hy.get? b = some o) → KeepS (· = I) hx hy := fun k2 b o hb e => ⟨⟨o.slots, k2 b o (fun q => hb (List.mem_singleton.mp q)) e⟩, fun _ => k2 b o (fun q => hb (List.mem_singleton.mp q)) e⟩
  obtain ⟨J0, hJ0⟩ : ∃ J : Nat → Shared → Prop, ∀ n s, J n s ↔ (∃ i h' g' m' u fa' fi' fs' r0' r1', n + i = items.size + 9 ∧ s = ⟨h', g', d, u, os⟩ ∧ KeepS a.X h h' ∧ AllBare g' ∧ St mg mb a pl sa sb it0 it1 xs0 xs1 fa' fi' fs' r0' r1' r0' r1' ls h' ∧ h'.Ns a.L m' ∧ Lo a m' ∧ r0' ≤ xs0.length ∧ r1' ≤ xs1.length ∧
    bads (xs0.drop r0') + bads (xs1.drop r1') + bads fs' < n ∧ IsRangeIter h' I (0 + ((i : Nat) : Int) * 1) (((items.size + 9 : Nat) : Int) - ((i : Nat) : Int)) 1) := ⟨_, fun _ _ => Iff.rfl⟩
  refine codeAny_forLoop_any (I := J0) ?_ (items.size + 9) ((hJ0 _ _).mpr
    ⟨0, h1, g, m, u1, fa, fi, fs, 0, 0, rfl, rfl, K1.mono fun _ q => q.elim, hG, S.nil K1, K1.ns id hn, lo, Nat.zero_le _, Nat.zero_le _, by simpa using hm, hI⟩)
  rintro n s hIn
  obtain ⟨i, h2, g2, m2, u2, fa2, fi2, fs2, p0, p1, hni, rfl, Kb2, hG2, S2, hn2, lo2, hp0, hp1, hm2, hI2⟩ := (hJ0 n s).mp hIn
  refine W.item i _ _ _ (by omega) hI2 fun v h3 tk3 hv hI3 k3 => ?_
  obtain ⟨tv, rfl⟩ := hv
  refine wpAny_of_eq (a := ()) (by rfl) ?_
  have K3 := toK k3
  have nI := hRI hI2 S2
  have hIL : I ≠ a.L := fun q => nI (.inr (.inr (.inr (.inr (.inl q)))))
  have hn3 := K3.ns (Ne.symm hIL) hn2
  obtain ⟨Kb3, S3⟩ := S.side Kb2 S2 hI0 (Nat.le_trans (Nat.le_of_lt (Nat.lt_of_le_of_lt S.bL hn.lt)) hIz) hI2 rfl rfl K3
  refine wpAny_assign_Name (q_store (by rfl) hn3 (by rfl) fun h4 u4 hn4 s4 => ?_)
  have K4 : KeepS (· = a.L) h3 h4 := KeepS.loc s4
  have S4 := S3.loc K4 hn4
  have Kb4 : KeepS a.X h h4 := Kb3.trans (K4.mono fun _ q => .inr (.inr (.inr (.inr (.inl q)))))
  have hI4 := K4.get hIL hI3 (by simp)
  refine turn S4 hn4 ⟨lo2.things, lo2.five, lo2.wells, lo2.read, lo2.echo⟩ hp0 hp1 hroom hA hfr hg hu hG2 (fun h5 g5 u5 K5 hG5 t5 => hT h5 g5 u5 (Kb4.trans K5) hG5 t5) fun h5 g5 u5 m5 fa5 fi5 fs5 q0 q1 K5 hG5 S5 hn5 lo5 hq0 hq1 hm5 => ?_
  exact ⟨n - 1, by omega, (hJ0 _ _).mpr ⟨i + 1, h5, g5, m5, u5, fa5, fi5, fs5, q0, q1, by omega, rfl, Kb4.trans K5, hG5, S5, hn5, lo5, hq0, hq1, by omega, K5.get (hRI hI4 S4) hI4 (by simp)⟩⟩
end
end Mine
end
section
open PySem PySem.W PyProof.Rows PySem.Calls PySem.SeqAt
set_option maxRecDepth 100000
namespace Mine
/-- y is new: made where h3 stood, and all of h1 was live there -/
def Rn (N : Heap → Heap → Value → Value → Prop) (h1 h' : Heap) (v y : Value) : Prop := ∃ h3, (∀ b o, h1.get? b = some o → ∃ o', h3.get? b = some o') ∧ N h3 h' v y
section
variable {w : World} {A : Around} {E : Value → Shared → Prop} {h : Heap} {g : Array GenState} {d : Drawn} {tk : Nat} {os : OsState} {env : Env}
theorem comp_loopN {elt iter : Expr} {x : PySem.Str} {px : Pos} {scope : Scope} {pos : Pos} {I D : Addr} {fp : List Addr} {n : Nat} {Pv : Nat → Value → Prop} {Sv : Nat → Heap → Prop} {cenv : Env} {m : PySem.Str → Option Value} {R : Result → Shared → Prop}
    (N : Heap → Heap → Value → Value → Prop) (hN : ∀ h0 h h' v y, N h0 h v y → (∀ b o, h0.get? b = none → h.get? b = some o → h'.get? b = some o) → N h0 h' v y)
    (hNT : ∀ h0 h v y, N h0 h v y → ∃ T o, y = .ref T ∧ h0.get? T = none ∧ h.get? T = some o)
    (W : Walks P w A I fp [I] n Pv Sv) (live : ∀ i h, Sv i h → ∃ o, h.get? I = some o)
    (hx : cenv.kindOf x = some .local) (hp : (cenv.scope.kind == .class || (cenv.scope.kind == .module && cenv.locals != cenv.globals)) = false)
    (hDC : D ≠ cenv.locals) (hDf : D ∉ fp) (hCf : cenv.locals ∉ fp) (hst : Sv 0 h) (hacc : h.PlainList D #[]) (hn : h.Ns cenv.locals m) (hsz : n ≤ 1000)
    (helt : ∀ i v h3 u3 m3 E', Pv i v → h3.Ns cenv.locals m3 → m3 x = some v → (∀ b o, b ≠ cenv.locals → b ≠ I → b ≠ D → h.get? b = some o → h3.get? b = some o) →
      wpAny (model P w) A (eval elt cenv) (fun y s4 => ∃ h4 u4, s4 = ⟨h4, g, d, u4, os⟩ ∧ Grow h3 h4 ∧ N h3 h4 v y) E' ⟨h3, g, d, u3, os⟩)
    (hR : ∀ h' u m' ys (vs : List Value), h'.Ns cenv.locals m' → h'.PlainList D ys → vs.length = n → (∀ j v, vs[j]? = some v → Pv j v) → Paired (Rn N h h') vs ys.toList → ys.toList.Pairwise (· ≠ ·) →
      (∀ b o, b ≠ cenv.locals → b ≠ I → b ≠ D → h.get? b = some o → h'.get? b = some o) → R (.ok .next) ⟨h', g, d, u, os⟩) :
    codeAny (model P w) A (.compLoop (.ListComp elt [⟨.Name x px, iter, [], 0⟩] scope pos) 0 (.ref I) (.ref D) cenv) R ⟨h, g, d, tk, os⟩ := by
  have hIf : I ∈ fp := W.sub I (List.mem_singleton.mpr rfl)
  have hCI : cenv.locals ≠ I := fun q => hCf (q ▸ hIf)
  have hDI : D ≠ I := fun q => hDf (q ▸ hIf)
  have hCl : ∃ o, h.get? cenv.locals = some o := by obtain ⟨o, _, _, ho, _⟩ := hn; exact ⟨o, ho⟩
  have hIl : ∃ o, h.get? I = some o := live _ _ hst
  have hDl : ∃ o, h.get? D = some o := by obtain ⟨_, ho⟩ := hacc; exact ⟨_, ho⟩
  have stay : ∀ {h' h'' : Heap} {v y : Value}, (∀ b o, b ≠ cenv.locals → b ≠ I → b ≠ D → h'.get? b = some o → h''.get? b = some o) → Rn N h h' v y → Rn N h h'' v y := fun hk r => by
    obtain ⟨h3, hl, hy⟩ := r
    have ne : ∀ {b c}, (∃ o, h.get? c = some o) → h3.get? b = none → b ≠ c := fun hc hb q => by
      obtain ⟨o, ho⟩ := hc
      obtain ⟨o', ho'⟩ := hl _ _ ho
      rw [← q, hb] at ho'; cases ho'
    exact ⟨h3, hl, hN _ _ _ _ _ hy fun b o hb e => hk b o (ne hCl hb) (ne hIl hb) (ne hDl hb) e⟩
  refine codeAny_compLoop_tests
    (fun k s' => ∃ h' tk m' ys, ∃ vs : List Value, s' = ⟨h', g, d, tk, os⟩ ∧ Sv vs.length h' ∧ h'.PlainList D ys ∧ h'.Ns cenv.locals m' ∧ (∀ j v, vs[j]? = some v → Pv j v) ∧
      Paired (Rn N h h') vs ys.toList ∧ ys.toList.Pairwise (· ≠ ·) ∧ vs.length ≤ n ∧ k = n + 1 - vs.length ∧
      (∀ b o, b ≠ cenv.locals → b ≠ I → b ≠ D → h.get? b = some o → h'.get? b = some o)) ?_ (n + 1)
    ⟨h, tk, m, #[], [], rfl, hst, hacc, hn, by simp, by simpa using Paired.nil, by simp, Nat.zero_le _, rfl, fun _ _ _ _ _ e => e⟩
  rintro k s' ⟨h1, tk1, m1, ys, vs, rfl, hst1, hacc1, hn1, hP, hF, hnd, hi, rfl, hk1⟩
  by_cases hlt : vs.length < n
  · refine W.item vs.length _ _ _ hlt hst1 fun v h2 tk2 hPv hst2 hk2 => ?_
    have hk2' : ∀ b o, b ≠ I → h1.get? b = some o → h2.get? b = some o := fun b o hb e => hk2 b o (fun q => hb (List.mem_singleton.mp q)) e
    refine wpAny_assign_Name (q_store hx (hn1.at' fun o e => hk2' _ o hCI e) hp fun h3 u3 hn3 hs3 => ?_)
    have up3 : ∀ b o, b ≠ cenv.locals → b ≠ I → h1.get? b = some o → h3.get? b = some o := fun b o hb hb' e => hs3.extBut b o hb (hk2' b o hb' e)
    have hst3 : Sv (vs.length + 1) h3 := W.frame _ _ _ hst2 fun b hb o e => hs3.extBut b o (fun q => hCf (q ▸ hb)) e
    have hacc3 : h3.PlainList D ys := hacc1.at fun o e => up3 D o hDC hDI e
    refine wpAny_tests_nil ?_
    rw [if_pos rfl]
    have hk3 : ∀ b o, b ≠ cenv.locals → b ≠ I → b ≠ D → h.get? b = some o → h3.get? b = some o := fun b o b1 b2 b3 e => up3 b o b1 b2 (hk1 b o b1 b2 b3 e)
    refine wpAny_mono (helt vs.length v h3 _ _ _ hPv hn3 (by simp) hk3) (fun y s4 h4 => ?_) fun _ _ e => e
    obtain ⟨h4, u4, rfl, k4, hy⟩ := h4
    obtain ⟨T, oT, rfl, hT3, hT4⟩ := hNT _ _ _ _ hy
    have hlive3 : ∀ b o, h.get? b = some o → ∃ o', h3.get? b = some o' := fun b o e => by
      by_cases b1 : b = cenv.locals
      · obtain ⟨o', _, _, ho', _⟩ := hn3; exact ⟨o', b1 ▸ ho'⟩
      · by_cases b2 : b = I
        · exact b2 ▸ live _ _ hst3
        · by_cases b3 : b = D
          · obtain ⟨_, ho'⟩ := hacc3; exact ⟨_, b3 ▸ ho'⟩
          · exact ⟨o, hk3 b o b1 b2 b3 e⟩
    have hlen := hF.length
    have hys : ys.size ≤ sizeLine := by
      have : ys.toList.length = ys.size := by simp
      exact Nat.le_trans (show ys.size ≤ 1000 by omega) (by decide +kernel)
    refine wpAny_list_append_plain (hsz := hys) (hacc3.at fun o e => k4 _ o e) fun h5 hl5 hs5 => ?_
    have up5 : ∀ b o, b ≠ D → h4.get? b = some o → h5.get? b = some o := fun b o hb e => hs5.extBut b o hb e
    have hF3 : Paired (Rn N h h3) vs ys.toList := hF.mono fun _ _ hy => stay (fun b o b1 b2 _ e => up3 b o b1 b2 e) hy
    refine ⟨n + 1 - (vs.length + 1), by omega, h5, u4, _, ys.push (.ref T), vs ++ [v], rfl, ?_, hl5, (hn3.keeps k4).sameBut hs5 (Ne.symm hDC), fun j u hj => ?_, ?_, ?_, by simp; omega, by simp, fun b o b1 b2 b3 e => up5 b o b3 (k4 b o (hk3 b o b1 b2 b3 e))⟩
    · have := W.frame _ _ h5 hst3 fun b hb o e => up5 b o (fun q => hDf (q ▸ hb)) (k4 b o e)
      simpa using this
    · rcases Nat.lt_trichotomy j vs.length with q | q | q
      · exact hP j u (by rwa [List.getElem?_append_left q] at hj)
      · subst q; simp at hj; subst hj; exact hPv
      · rw [List.getElem?_eq_none (by simp; omega)] at hj; cases hj
    · have hF5 := hF3.mono (F' := Rn N h h5) fun _ _ hy => stay (fun b o _ _ b3 e => up5 b o b3 (k4 b o e)) hy
      have hy5 : Rn N h h5 v (.ref T) := ⟨h3, hlive3, hN _ _ _ _ _ hy fun b o hb e => up5 b o (fun q => by
        obtain ⟨_, ho'⟩ := hacc3
        rw [← q, hb] at ho'; cases ho') e⟩
      have := Paired.snoc hF5 hy5
      simpa using this
    · have hTy : ∀ y ∈ ys.toList, y ≠ .ref T := fun y hy q => by
        obtain ⟨v', h3', hl', hy'⟩ := Paired.right hF3 y hy
        obtain ⟨T', o', e', _, ho'⟩ := hNT _ _ _ _ hy'
        rw [q] at e'; cases e'
        rw [hT3] at ho'; cases ho'
      have : (ys.toList ++ [Value.ref T]).Pairwise (· ≠ ·) := List.pairwise_append.mpr ⟨hnd, List.pairwise_singleton _ _, fun a ha b hb => by rw [List.mem_singleton.mp hb]; exact hTy a ha⟩
      simpa using this
  · have hin : vs.length = n := by omega
    refine W.done _ _ _ (hin ▸ hst1) fun h2 tk2 hk2 => ?_
    have hk2' : ∀ b o, b ≠ I → h1.get? b = some o → h2.get? b = some o := fun b o hb e => hk2 b o (fun q => hb (List.mem_singleton.mp q)) e
    exact hR h2 tk2 m1 ys vs (hn1.at' fun o e => hk2' _ o hCI e) (hacc1.at fun o e => hk2' _ o hDI e) hin hP (hF.mono fun _ _ hy => stay (fun b o _ b2 _ e => hk2' b o b2 e) hy) hnd fun b o b1 b2 b3 e => hk2' b o b2 (hk1 b o b1 b2 b3 e)
/-- y = [elt for x in iter], where elt makes new objects -/
theorem assign_make {elt iter : Expr} {x y : PySem.Str} {px py : Pos} {scope : Scope} {pos spos : Pos} {Q : Flow → Shared → Prop} {m : PySem.Str → Option Value}
    (N : Heap → Heap → Value → Value → Prop) (hN : ∀ h0 h h' v y, N h0 h v y → (∀ b o, h0.get? b = none → h.get? b = some o → h'.get? b = some o) → N h0 h' v y)
    (hNT : ∀ h0 h v y, N h0 h v y → ∃ T o, y = .ref T ∧ h0.get? T = none ∧ h.get? T = some o)
    (hsw : swapsWith (.ListComp elt [⟨.Name x px, iter, [], 0⟩] scope pos) (some (.Name y py)) spos.line env = pure true)
    (hfree : ∀ x ∈ scope.names, x.2 ≠ .free) (hcell : ∀ z ∈ scope.names, z.2 ≠ .cell) (hkind : scope.kind = .function)
    (hnames : ∀ z ∈ scope.names, z.2 = .local → scope.names.lookup z.1 = some .local) (hx : scope.names.lookup x = some .local)
    (hy : env.kindOf y = some .local) (hp : (env.scope.kind == .class || (env.scope.kind == .module && env.locals != env.globals)) = false)
    (hi : wpAny (model P w) A (eval iter env) (fun xv s₁ => wpAny (model P w) A (pyIter xv) (fun it s₂ => ∃ I fp n Pv Sv h2 u2, it = .ref I ∧ s₂ = ⟨h2, g, d, u2, os⟩ ∧ Walks P w A I fp [I] n Pv Sv ∧ n ≤ 1000 ∧ Sv 0 h2 ∧ (∀ i h, Sv i h → ∃ o, h.get? I = some o) ∧ (∀ b ∈ fp, b < h2.objs.size) ∧
      env.locals ≠ I ∧ h2.Ns env.locals m ∧
      (∀ C i v h3 u3 m3 E', h2.objs.size ≤ C → Pv i v → h3.Ns C m3 → m3 x = some v → (∀ b o, b ≠ I → h2.get? b = some o → h3.get? b = some o) →
        wpAny (model P w) A (eval elt (compEnvC scope [] C env)) (fun y s4 => ∃ h4 u4, s4 = ⟨h4, g, d, u4, os⟩ ∧ Grow h3 h4 ∧ N h3 h4 v y) E' ⟨h3, g, d, u3, os⟩) ∧
      (∀ D h' u ys (vs : List Value), h2.get? D = none → h2.objs.size ≤ D → h'.PlainList D ys → vs.length = n → (∀ j v, vs[j]? = some v → Pv j v) → Paired (Rn N h2 h') vs ys.toList → ys.toList.Pairwise (· ≠ ·) → (∀ y ∈ ys.toList, y ≠ .ref D) →
        h'.Ns env.locals (up y (.ref D) m) → (∀ b o, b ≠ env.locals → b ≠ I → h2.get? b = some o → h'.get? b = some o) → Q .next ⟨h', g, d, u, os⟩)) E s₁) E ⟨h, g, d, tk, os⟩)
    (hs : ∀ x, foldedSetIterable iter env x = pure x := by intro _; rfl) :
    wpAny (model P w) A (exec (.Assign [.Name y py] (.ListComp elt [⟨.Name x px, iter, [], 0⟩] scope pos) spos) env) Q E ⟨h, g, d, tk, os⟩ := by
  rw [exec_Assign_Name_used _ _ _ _ hsw]
  refine wpAny_bind (wpAny_standAt (wpAny_bind ?_))
  show wpAny _ A (do let _ ← comprehension (.ListComp elt [⟨.Name x px, iter, [], 0⟩] scope pos) scope env _ (newList []) false (eval iter env) (some (assign (.Name y py) env))) _ _ _
  refine wpAny_bind (wpAny_mono (wpAny_comprehension_free (use := some (assign (.Name y py) env)) (Q := fun _ s' => Q .next s') rfl hs (closureFor_none hfree) hkind hnames
    (wpAny_mono hi (fun xv s₁ h₁ => wpAny_mono h₁ (fun it s₂ h₂ => ?_) fun _ _ e => e) fun _ _ e => e)) (fun _ s' hq => wpAny_pure (wpAny_pure hq)) fun _ _ e => e)
  obtain ⟨I, fp, n, Pv, Sv, h2, u2, rfl, rfl, W, hsz, hst, live, hfp, hLI, hn, helt, hQ⟩ := h₂
  refine wpAny_newObj_type (wpAny_newFunctionEnv hcell (by intro y hy; simp at hy) (fun h₁ hns₁ hsb₁ => ?_) hkind)
  dsimp only at hns₁ hsb₁ ⊢
  generalize hH2 : h2.push { cls := .type "list", dict := none, data := .seq ([] : List Value).toArray } = H2 at hns₁ hsb₁ ⊢
  have hC : H2.objs.size = h2.objs.size + 1 := by rw [← hH2, Heap.size_push]
  generalize hD : h2.objs.size = D at *
  generalize hCe : H2.objs.size = C at *
  have hDC : D ≠ C := by omega
  have below : ∀ b, b < D → b ≠ C ∧ b ≠ D := fun b hb => ⟨by omega, by omega⟩
  have lt2 : ∀ b o, h2.get? b = some o → b < D := fun b o e => hD ▸ Heap.lt_size e
  have old : ∀ b o, h2.get? b = some o → h₁.get? b = some o := fun b o e => hsb₁.extBut b o (below b (lt2 b o e)).1 (Heap.get?_push_of_some _ (hH2 ▸ Heap.get?_push_of_some _ e))
  have hacc : h₁.PlainList D #[] := ⟨_, hsb₁.extBut _ _ hDC (Heap.get?_push_of_some _ (hH2 ▸ hD ▸ Heap.get?_push_size _ rfl))⟩
  have hst₁ : Sv 0 h₁ := W.frame _ _ _ hst fun b _ o e => old b o e
  have hDf : D ∉ fp := fun q => Nat.lt_irrefl _ (hfp _ q)
  have hCf : C ∉ fp := fun q => Nat.lt_irrefl C (Nat.lt_trans (hfp _ q) (show D < C by omega))
  have noD : h2.get? D = none := Heap.get?_none_of_le (Nat.le_of_eq hD)
  have noC : h2.get? C = none := Heap.get?_none_of_le (Nat.le_trans (Nat.le_of_eq hD) (by omega))
  have hLl : ∃ o, h2.get? env.locals = some o := by obtain ⟨o, _, _, ho, _⟩ := hn; exact ⟨o, ho⟩
  obtain ⟨oL, hoL⟩ := hLl
  have hLC : env.locals ≠ C := fun q => by rw [q, noC] at hoL; cases hoL
  have hLD : env.locals ≠ D := fun q => by rw [q, noD] at hoL; cases hoL
  have loop : ∀ u, codeAny (model P w) A (.compLoop (.ListComp elt [⟨.Name x px, iter, [], 0⟩] scope pos) 0 (.ref I) (.ref D) (compEnvC scope [] C env)) (compPost (model P w) A E (some (assign (.Name y py) env)) (fun _ s' => Q .next s') (.ref D) C) ⟨h₁, g, d, u, os⟩ := by
    intro u
    refine comp_loopN (cenv := compEnvC scope [] C env) N hN hNT W live (lookup_relabel_local hx) (by simp [compEnvC, relabel, hkind]) hDC hDf hCf hst₁ hacc hns₁ hsz
      (fun i v h3 u3 m3 E' hv hn3 hm hk => helt C i v h3 u3 m3 E' (by omega) hv hn3 hm fun b o hb e => hk b o (below b (lt2 b o e)).1 hb (below b (lt2 b o e)).2 (old b o e)) fun h' u' m' ys vs hnC hpl hlen hP hF hnd hk => ?_
    have hn' : h'.Ns env.locals m := (hn.at' fun o e => hk _ o hLC hLI hLD (old _ o e))
    show wpAny _ A (assign (.Name y py) env (.ref D)) _ _ _
    refine wpAny_assign_Name (q_store hy hn' hp fun h4 u4 hn4 hs4 => ?_)
    refine ⟨m', hnC.sameBut hs4 (Ne.symm hLC), fun h5 hs5 => ?_⟩
    have up5 : ∀ b o, b ≠ env.locals → b ≠ C → h'.get? b = some o → h5.get? b = some o := fun b o b1 b2 e => hs5.extBut b o b2 (hs4.extBut b o b1 e)
    have hcl : ∃ o, h₁.get? C = some o := by obtain ⟨o, _, _, ho, _⟩ := hns₁; exact ⟨o, ho⟩
    refine hQ D h5 _ ys vs noD (Nat.le_refl _) (hpl.at fun o e => up5 D o (Ne.symm hLD) hDC e) hlen hP (hF.mono fun v' y' r => ?_) hnd (fun y' hy' q => ?_) (hn4.sameBut hs5 hLC) fun b o b1 b2 e => up5 b o b1 (below b (lt2 b o e)).1 (hk b o (below b (lt2 b o e)).1 b2 (below b (lt2 b o e)).2 (old b o e))
    · obtain ⟨h3, hl, hy'⟩ := r
      have ne : ∀ {b c}, (∃ o, h₁.get? c = some o) → h3.get? b = none → b ≠ c := fun hc hb q => by
        obtain ⟨o, ho⟩ := hc
        obtain ⟨o', ho'⟩ := hl _ _ ho
        rw [← q, hb] at ho'; cases ho'
      exact ⟨h3, fun b o e => hl b o (old b o e), hN _ _ _ _ _ hy' fun b o hb e => up5 b o (ne ⟨oL, old _ _ hoL⟩ hb) (ne hcl hb) e⟩
    · obtain ⟨v', h3, hl, hy''⟩ := Paired.right hF y' hy'
      obtain ⟨T, oT, e', hT3, _⟩ := hNT _ _ _ _ hy''
      rw [q] at e'; cases e'
      obtain ⟨nD, hoD⟩ := hacc
      obtain ⟨o', ho'⟩ := hl _ _ hoD
      rw [hT3] at ho'; cases ho'
  exact codeAny_compStart_list (loop _) (W.self 0 _ _ _ hst₁ (loop _))
end
end Mine
end
section
open PySem PySem.W PyProof.Rows PySem.Calls PySem.SeqAt
set_option maxRecDepth 100000
namespace Mine
abbrev sThings := PySem.Str.ofString "things"
abbrev sFive := PySem.Str.ofString "five"
abbrev sSlot := PySem.Str.ofString "slot"
abbrev sX := PySem.Str.ofString "x"
theorem SlotIs.keepR {X : Addr → Prop} {h h' : Heap} {sv v : Value} {x : Thing} (s : SlotIs h sv v x) (k : KeepS X h h') (hR : ∀ b arr n, X b → h.get? b = some (lstO arr n) → ∀ (j : Nat) u, arr[j]? = some u → ∃ c, u = .ref c)
    (hT : ∀ b arr n, X b → h.get? b ≠ some { cls := .type "tuple", data := .seq arr n }) : SlotIs h' sv v x := by
  obtain ⟨a, n, t, rfl, ha, hI, ho⟩ := s
  have hna : ¬ X a := fun q => by
    obtain ⟨c, e⟩ := hR a _ _ q ha 1 _ rfl
    cases e
  refine ⟨a, n, t, rfl, k.get hna ha (by simp), hI.keep k fun b hb q => ?_, ho⟩
  subst hb
  cases x with
  | list m =>
    obtain ⟨u, z, e⟩ := hI
    obtain ⟨c, e'⟩ := hR b _ _ q e 0 _ rfl
    cases e'
  | tuple m =>
    obtain ⟨u, z, e⟩ := hI
    exact hT b _ _ q e
  | bytes b => exact hI.elim
  | none => exact hI.elim
  | int n => exact hI.elim
  | str c => exact hI.elim
theorem Slots.keepR {X : Addr → Prop} {h h' : Heap} {sa it : Array Value} {xs : List Thing} (s : Slots h sa it xs) (k : KeepS X h h') (hR : ∀ b arr n, X b → h.get? b = some (lstO arr n) → ∀ (j : Nat) u, arr[j]? = some u → ∃ c, u = .ref c)
    (hT : ∀ b arr n, X b → h.get? b ≠ some { cls := .type "tuple", data := .seq arr n }) : Slots h' sa it xs :=
  ⟨s.len, s.len', fun j sv v x a b c => (s.is j sv v x a b c).keepR k hR hT⟩
theorem Slots.refs {h : Heap} {sa it : Array Value} {xs : List Thing} (S : Slots h sa it xs) (j : Nat) (u : Value) (e : sa[j]? = some u) : ∃ c, u = .ref c := by
  have hj : j < xs.length := by rw [← S.len]; exact (Array.getElem?_eq_some_iff.mp e).1
  have hi : j < it.size := by rw [S.len']; exact hj
  obtain ⟨a, n, t, q, _⟩ := S.is j u it[j] xs[j] e (by simp [hi]) (by simp)
  exact ⟨a, q⟩
theorem Slots.nil {h : Heap} : Slots h #[] #[] [] := ⟨rfl, rfl, fun j sv v x a => by simp at a⟩
theorem Slots.push {h : Heap} {sa it : Array Value} {xs : List Thing} {sv v : Value} {x : Thing} (S : Slots h sa it xs) (s : SlotIs h sv v x) : Slots h (sa.push sv) (it.push v) (xs ++ [x]) := by
  refine ⟨by simp [S.len], by simp [S.len'], fun j sv' v' x' h1 h2 h3 => ?_⟩
  rw [Array.getElem?_push] at h1 h2
  rw [S.len] at h1
  rw [S.len'] at h2
  rw [List.getElem?_append] at h3
  by_cases hj : j = xs.length
  · rw [if_pos hj] at h1 h2
    rw [if_neg (by omega)] at h3
    subst hj
    cases h1; cases h2
    simp at h3
    cases h3
    exact s
  · rw [if_neg hj] at h1 h2
    have hlt : j < xs.length := by
      have := (Array.getElem?_eq_some_iff.mp h1).1
      rw [S.len] at this; exact this
    rw [if_pos hlt] at h3
    exact S.is j sv' v' x' h1 h2 h3
theorem Slots.set2 {h : Heap} {fa fi : Array Value} {fs : List Thing} {sv v : Value} {x : Thing} (S : Slots h fa fi fs) (i : Nat) (s : SlotIs h sv v x) : Slots h (fa.setIfInBounds i sv) (fi.setIfInBounds i v) (fs.set i x) := by
  refine ⟨by simp [S.len], by simp [S.len'], fun j sv' v' x' hsv hv hx => ?_⟩
  by_cases hij : i = j
  · subst hij
    have hl : i < fs.length := by have := (List.getElem?_eq_some_iff.mp hx).1; simpa using this
    have h1 : i < fa.size := by rw [S.len]; exact hl
    have h2 : i < fi.size := by rw [S.len']; exact hl
    rw [Array.getElem?_setIfInBounds_self_of_lt h1] at hsv
    rw [Array.getElem?_setIfInBounds_self_of_lt h2] at hv
    rw [List.getElem?_set_self hl] at hx
    cases hsv; cases hv; cases hx
    exact s
  · rw [Array.getElem?_setIfInBounds_ne hij] at hsv
    rw [Array.getElem?_setIfInBounds_ne hij] at hv
    rw [List.getElem?_set_ne hij] at hx
    exact S.is j sv' v' x' hsv hv hx
/-- the five at first -/
theorem five_slots {h : Heap} : ∀ (l : List Value), (∀ y ∈ l, ∃ T n t u, y = .ref T ∧ h.get? T = some (lstO #[.bytes #[] t, .str sE u] n)) → ∃ fi, Slots h l.toArray fi (List.replicate l.length (.bytes #[]))
  | [], _ => ⟨#[], Slots.nil⟩
  | y :: l, hl => by
    obtain ⟨fi, S⟩ := five_slots l fun z hz => hl z (List.mem_cons_of_mem _ hz)
    obtain ⟨T, n, t, u, e, hT⟩ := hl y (List.mem_cons_self ..)
    refine ⟨(.bytes #[] t :: fi.toList).toArray, by simp, by have := S.len'; simp at this ⊢; exact this, fun j sv v x h1 h2 h3 => ?_⟩
    cases j with
    | zero =>
      simp at h1 h2
      have h3 : some (Thing.bytes #[]) = some x := h3
      cases h3
      subst h1 h2
      exact ⟨T, n, u, e, hT, rfl, by show 0 ≤ 2; decide⟩
    | succ j =>
      refine S.is j sv v x (by simpa using h1) (by simpa using h2) ?_
      exact h3
/-- law's code table knows no lambda yet -/
def TabL (h : Heap) : Prop := ∃ ps, h.IsCode 38 36 ps ∧ h.TableAt 38 36 ps ∧ codeAmong lamPos ps.toList = none
theorem TabL.keep {X : Addr → Prop} {h h' : Heap} (x : TabL h) (k : KeepS X h h') (F : Fair X h) : TabL h' := by
  obtain ⟨ps, i, t, z⟩ := x
  have nX : ∀ a, a < nB → ¬ X a := fun a ha q => absurd (F a q).1 (Nat.not_le_of_lt ha)
  exact ⟨ps, IsCode.keepS i k (nX 38 (by decide)) (nX 36 (by decide)), TableAt.keepS t k (nX 38 (by decide)) (nX 36 (by decide)), z⟩
/-- the base hb is as it was, but for the two code tables -/
def Held (hb h : Heap) : Prop := (∀ b o, hb.get? b = some o → b < nB) ∧ (∀ b o, hb.get? b = some o → b ≠ 17 → b ≠ 36 → h.get? b = some o) ∧ ∃ ps, h.get? 36 = some { cls := .none, data := .fields ps }
theorem Held.keep {X : Addr → Prop} {hb h h' : Heap} (x : Held hb h) (k : KeepS X h h') (hX : ∀ b, X b → nB ≤ b ∨ b = 17) : Held hb h' := by
  refine ⟨x.1, fun b o e h17 h36 => k.old (fun q => ?_) (x.2.1 b o e h17 h36) (x.1 b o e), ?_⟩
  · rcases hX b q with q | q
    · exact absurd (x.1 b o e) (Nat.not_lt_of_le q)
    · exact h17 q
  · obtain ⟨ps, e⟩ := x.2.2
    refine ⟨ps, k.old (fun q => ?_) e (by decide)⟩
    rcases hX 36 q with q | q
    · exact absurd q (by decide)
    · exact absurd q (by decide)
structure Bd (mg mb : PySem.Str → Option Value) (hb : Heap) (L sc Tt Ta Tb Fv : Addr) (items sa sb it0 it1 : Array Value) (xs0 xs1 : List Thing) (fa fi : Array Value) (fs : List Thing) (ls : List Env) (h : Heap) : Prop where
  sys : Sys mg mb h
  held : Held hb h
  tl : TabL h
  scr : h.IsList sc items
  tt : ∃ n, h.get? Tt = some (lstO #[.ref Ta, .ref Tb] n)
  ta : ∃ n, h.get? Ta = some (lstO sa n)
  tb : ∃ n, h.get? Tb = some (lstO sb n)
  s0 : Slots h sa it0 xs0
  s1 : Slots h sb it1 xs1
  fv : ∃ n, h.get? Fv = some (lstO fa n)
  s5 : Slots h fa fi fs
  five : fs.length = 5
  fr : Frs h (lawEnv L :: ls)
  bL : nB ≤ L
  bS : sc < nB
  bA : nB ≤ Ta
  bB : nB ≤ Tb
  bF : nB ≤ Fv
  ab : Ta ≠ Tb
  tA : Tt ≠ Ta
  tB : Tt ≠ Tb
  tF : Tt ≠ Fv
  fA : Fv ≠ Ta
  fB : Fv ≠ Tb
section
variable {w : World} {A : Around} {E : Value → Shared → Prop} {h h' hb : Heap} {g : Array GenState} {d : Drawn} {tk : Nat} {os : OsState} {mg mb m : PySem.Str → Option Value} {L sc Tt Ta Tb Fv : Addr} {items sa sb it0 it1 fa fi sa' sb' it0' it1' fa' fi' : Array Value} {xs0 xs1 fs xs0' xs1' fs' : List Thing} {ls : List Env}
theorem Bd.away {X : Addr → Prop} (B : Bd mg mb hb L sc Tt Ta Tb Fv items sa sb it0 it1 xs0 xs1 fa fi fs ls h) (k : KeepS X h h') (hx : ∀ b o vs n, X b → h.get? b = some o → o.data ≠ .seq vs n) (fair : Fair X h) (fr : Frs h' (lawEnv L :: ls)) :
    Bd mg mb hb L sc Tt Ta Tb Fv items sa sb it0 it1 xs0 xs1 fa fi fs ls h' := by
  have ne : ∀ {b arr n}, h.get? b = some (lstO arr n) → ¬ X b := fun e q => hx _ _ _ _ q e rfl
  refine ⟨B.sys.keep k fair, B.held.keep k (fun b q => .inl (fair b q).1), B.tl.keep k fair, IsList.keepS B.scr k fun q => absurd (fair _ q).1 (Nat.not_le_of_lt B.bS), ?_, ?_, ?_, B.s0.away k hx, B.s1.away k hx, ?_, B.s5.away k hx, B.five, fr, B.bL, B.bS, B.bA, B.bB, B.bF, B.ab, B.tA, B.tB, B.tF, B.fA, B.fB⟩
  · obtain ⟨n, e⟩ := B.tt; exact ⟨n, k.get (ne e) e (by simp)⟩
  · obtain ⟨n, e⟩ := B.ta; exact ⟨n, k.get (ne e) e (by simp)⟩
  · obtain ⟨n, e⟩ := B.tb; exact ⟨n, k.get (ne e) e (by simp)⟩
  · obtain ⟨n, e⟩ := B.fv; exact ⟨n, k.get (ne e) e (by simp)⟩
theorem Bd.grow (B : Bd mg mb hb L sc Tt Ta Tb Fv items sa sb it0 it1 xs0 xs1 fa fi fs ls h) (k : Grow h h') : Bd mg mb hb L sc Tt Ta Tb Fv items sa sb it0 it1 xs0 xs1 fa fi fs ls h' :=
  B.away (KeepS.of_grow k : KeepS Nil h h') (fun _ _ _ _ q => q.elim) Fair.nil (B.fr.keep (KeepS.of_grow k : KeepS Nil h h') fun _ _ _ _ => id)
theorem ns_away {mx : PySem.Str → Option Value} (hn : h.Ns L mx) : ∀ b o vs n, b = L → h.get? b = some o → o.data ≠ .seq vs n := fun b o vs n q ho hd => by
  subst q
  obtain ⟨o', es, n', ho', hd', _⟩ := hn
  rw [ho] at ho'; cases ho'; rw [hd] at hd'; cases hd'
theorem Bd.loc {m' : PySem.Str → Option Value} (B : Bd mg mb hb L sc Tt Ta Tb Fv items sa sb it0 it1 xs0 xs1 fa fi fs ls h) (hn : h.Ns L m) (s : Heap.SameBut L h h') (hn' : h'.Ns L m') : Bd mg mb hb L sc Tt Ta Tb Fv items sa sb it0 it1 xs0 xs1 fa fi fs ls h' :=
  B.away (KeepS.loc s) (ns_away hn) (Fair.ns hn B.bL) (B.fr.storeAny s hn')
theorem Bd.it {I : Addr} {o : Obj} {vs : Array Value} (B : Bd mg mb hb L sc Tt Ta Tb Fv items sa sb it0 it1 xs0 xs1 fa fi fs ls h) (hI : h.get? I = some o) (hc : o.cls = .type "list_iterator") (hd : o.data = .fields vs) (hIb : nB ≤ I) (k : KeepS (· = I) h h') : Bd mg mb hb L sc Tt Ta Tb Fv items sa sb it0 it1 xs0 xs1 fa fi fs ls h' := by
  refine B.away k (fun b ob vs' n q e hq => ?_) (Fair.cls hI (by rw [hc]; decide) hIb) (B.fr.keep k fun env he L' hf q => ?_)
  · subst q; rw [hI] at e; cases e; rw [hd] at hq; cases hq
  · exact B.fr.not_mem hI (fun es n q => by rw [hd] at q; cases q) env he (q ▸ hf)
theorem Bd.lst (B : Bd mg mb hb L sc Tt Ta Tb Fv items sa sb it0 it1 xs0 xs1 fa fi fs ls h) {b : Addr} (hb : b = Ta ∨ b = Tb ∨ b = Fv) : nB ≤ b ∧ b ≠ Tt ∧ ∃ arr n, h.get? b = some (lstO arr n) ∧ ∀ (j : Nat) u, arr[j]? = some u → ∃ c, u = .ref c := by
  rcases hb with rfl | rfl | rfl
  · obtain ⟨n, e⟩ := B.ta; exact ⟨B.bA, Ne.symm B.tA, _, n, e, B.s0.refs⟩
  · obtain ⟨n, e⟩ := B.tb; exact ⟨B.bB, Ne.symm B.tB, _, n, e, B.s1.refs⟩
  · obtain ⟨n, e⟩ := B.fv; exact ⟨B.bF, Ne.symm B.tF, _, n, e, B.s5.refs⟩
theorem Bd.slots {X : Addr → Prop} {arr vals : Array Value} {xs : List Thing} (B : Bd mg mb hb L sc Tt Ta Tb Fv items sa sb it0 it1 xs0 xs1 fa fi fs ls h) (k : KeepS X h h') (hX : ∀ b, X b → b = Ta ∨ b = Tb ∨ b = Fv) (S : Slots h arr vals xs) : Slots h' arr vals xs := by
  refine S.keepR k (fun b ar n q e => ?_) fun b ar n q e => ?_
  · obtain ⟨_, _, ar', n', e', hr⟩ := B.lst (hX b q)
    rw [e] at e'; cases e'; exact hr
  · obtain ⟨_, _, ar', n', e', hr⟩ := B.lst (hX b q)
    rw [e] at e'; simp at e'
theorem Bd.slot {X : Addr → Prop} {sv v : Value} {x : Thing} (B : Bd mg mb hb L sc Tt Ta Tb Fv items sa sb it0 it1 xs0 xs1 fa fi fs ls h) (k : KeepS X h h') (hX : ∀ b, X b → b = Ta ∨ b = Tb ∨ b = Fv) (S : SlotIs h sv v x) : SlotIs h' sv v x := by
  refine S.keepR k (fun b ar n q e => ?_) fun b ar n q e => ?_
  · obtain ⟨_, _, ar', n', e', hr⟩ := B.lst (hX b q)
    rw [e] at e'; cases e'; exact hr
  · obtain ⟨_, _, ar', n', e', hr⟩ := B.lst (hX b q)
    rw [e] at e'; simp at e'
theorem Bd.step {X : Addr → Prop} (B : Bd mg mb hb L sc Tt Ta Tb Fv items sa sb it0 it1 xs0 xs1 fa fi fs ls h) (k : KeepS X h h') (hX : ∀ b, X b → b = Ta ∨ b = Tb ∨ b = Fv)
    (ta : ∃ n, h'.get? Ta = some (lstO sa' n)) (tb : ∃ n, h'.get? Tb = some (lstO sb' n)) (fv : ∃ n, h'.get? Fv = some (lstO fa' n)) (s0 : Slots h' sa' it0' xs0') (s1 : Slots h' sb' it1' xs1') (s5 : Slots h' fa' fi' fs') (five : fs'.length = 5) :
    Bd mg mb hb L sc Tt Ta Tb Fv items sa' sb' it0' it1' xs0' xs1' fa' fi' fs' ls h' := by
  have fair : Fair X h := fun b hb => ⟨(B.lst (hX b hb)).1, fun o vs ho hc hd => by
    obtain ⟨_, _, ar', n', e', _⟩ := B.lst (hX b hb)
    rw [ho] at e'; cases e'; cases hd⟩
  refine ⟨B.sys.keep k fair, B.held.keep k (fun b q => .inl (fair b q).1), B.tl.keep k fair, IsList.keepS B.scr k fun q => absurd (fair _ q).1 (Nat.not_le_of_lt B.bS), ?_, ta, tb, s0, s1, fv, s5, five, B.fr.keep k fun env he L' hf q => ?_, B.bL, B.bS, B.bA, B.bB, B.bF, B.ab, B.tA, B.tB, B.tF, B.fA, B.fB⟩
  · obtain ⟨n, e⟩ := B.tt; exact ⟨n, k.get (fun q => (B.lst (hX _ q)).2.1 rfl) e (by simp)⟩
  · obtain ⟨_, _, ar', n', e', _⟩ := B.lst (hX _ q)
    exact B.fr.not_mem e' (by simp) env he hf
end
end Mine
end
section
open PySem PySem.W PyProof.Rows PySem.Calls PySem.SeqAt
set_option maxRecDepth 100000
namespace Mine
abbrev Nfive (h0 h : Heap) (_v y : Value) : Prop := ∃ T n t u, y = .ref T ∧ h0.get? T = none ∧ h.get? T = some (lstO #[.bytes #[] t, .str sE u] n)
theorem nB_le {h : Heap} {L : Addr} {m : PySem.Str → Option Value} (hn : h.Ns L m) (hL : nB ≤ L) : nB ≤ h.objs.size := Nat.le_of_lt (Nat.lt_of_le_of_lt hL hn.lt)
section
variable {w : World} {A : Around} {E : Value → Shared → Prop} {h h' hb : Heap} {g : Array GenState} {d : Drawn} {tk : Nat} {os : OsState} {mg mb m : PySem.Str → Option Value} {L sc Tt Ta Tb Fv : Addr} {items sa sb it0 it1 fa fi : Array Value} {xs0 xs1 fs : List Thing} {ls : List Env}
theorem b_start {rest : List Stmt} {Q : Flow → Shared → Prop} (S : Sys mg mb h) (HB : Held hb h) (TL : TabL h) (hn : h.Ns L m) (hL : nB ≤ L) (F : Frs h (lawEnv L :: ls)) (hsc : h.IsList sc items) (hs : sc < nB) (hA : A.handled = none)
    (hq : ∀ h' u Tt Ta Tb Fv fa fi, Bd mg mb hb L sc Tt Ta Tb Fv items #[] #[] #[] #[] [] [] fa fi (List.replicate 5 (.bytes #[])) ls h' → h'.Ns L (up sFive (.ref Fv) (up sThings (.ref Tt) m)) →
      wpAny (model P w) A (execs rest (lawEnv L)) Q E ⟨h', g, d, u, os⟩) :
    wpAny (model P w) A (execs (lawS 0 :: lawS 1 :: rest) (lawEnv L)) Q E ⟨h, g, d, tk, os⟩ := by
  refine wpAny_execs_cons (wpAny_Assign_Name (q_list ?_))
  refine spliced_more (q_list ?_)
  refine spliced_none ⟨by show 0 ≤ 1000; decide, h, _, rfl, fun h1 Ta k1 hTa0 hTaz hTa => ?_⟩
  refine spliced_more (q_list ?_)
  refine spliced_none ⟨by show 0 ≤ 1000; decide, h1, _, rfl, fun h2 Tb k2 hTb0 hTbz hTb => ?_⟩
  refine spliced_none ⟨by show 2 ≤ 1000; decide, h2, _, rfl, fun h3 Tt k3 hTt0 hTtz hTt => ?_⟩
  have k03 : Grow h h3 := (k1.trans k2).trans k3
  have hn3 := hn.keeps k03
  refine q_store (by rfl) hn3 (by rfl) fun h4 u4 hn4 s4 => ?_
  show wpAny _ _ (execs _ _) _ _ _
  have hz := nB_le hn hL
  have bA : nB ≤ Ta := Nat.le_trans hz hTaz
  have hz1 : nB ≤ h1.objs.size := nB_le (hn.keeps k1) hL
  have bB : nB ≤ Tb := Nat.le_trans hz1 hTbz
  have ab : Ta ≠ Tb := fun q => by rw [q] at hTa; rw [hTa] at hTb0; cases hTb0
  have tA : Tt ≠ Ta := fun q => by rw [q, k2 _ _ hTa] at hTt0; cases hTt0
  have tB : Tt ≠ Tb := fun q => by rw [q, hTb] at hTt0; cases hTt0
  have K3 : KeepS Nil h h3 := .of_grow k03
  have K4 : KeepS (· = L) h3 h4 := KeepS.loc s4
  have S3 := S.keep K3 Fair.nil
  have S4 := S3.keep K4 (Fair.ns hn3 hL)
  have TL4 := (TL.keep K3 Fair.nil).keep K4 (Fair.ns hn3 hL)
  have F4 : Frs h4 (lawEnv L :: ls) := (F.keep K3 fun _ _ _ _ => id).storeAny s4 hn4
  have neL : ∀ {b arr n}, h3.get? b = some (lstO arr n) → ¬ b = L := fun e q => ns_away hn3 _ _ _ _ q e rfl
  have hTa4 := K4.get (neL (k3 _ _ (k2 _ _ hTa))) (k3 _ _ (k2 _ _ hTa)) (by simp)
  have hTb4 := K4.get (neL (k3 _ _ hTb)) (k3 _ _ hTb) (by simp)
  have hTt4 := K4.get (neL hTt) hTt (by simp)
  have hsc4 : h4.IsList sc items := IsList.keepS (IsList.keepS hsc K3 id) K4 fun q => absurd (q ▸ hs) (Nat.not_lt_of_le hL)
  refine wpAny_execs_cons ?_
  refine assign_make (env := lawEnv L) (m := up sThings (.ref Tt) m) Nfive (fun h0 h h' v y hy hk => ?_) (fun h0 h v y hy => ?_) (by rfl) (by decide) (by decide) (by rfl) (by decide) (by rfl) (by rfl) (by rfl) ?_
  · obtain ⟨T, n, t, u, e, hT0, hT⟩ := hy
    exact ⟨T, n, t, u, e, hT0, hk T _ hT0 hT⟩
  · obtain ⟨T, n, t, u, e, hT0, hT⟩ := hy
    exact ⟨T, _, e, hT0, hT⟩
  refine range_walk2 (N := 5) S4.N S4.B hA rfl rfl rfl (by rfl) (by decide) (by rfl) ?_
  refine q_int fun _ _ => ⟨_, h4, _, rfl, rfl, fun h5 I u5 k5 hI0 hIz hI W => ?_⟩
  have hz4 : nB ≤ h4.objs.size := nB_le hn4 hL
  have hIL : L ≠ I := fun q => by
    obtain ⟨o, _, _, ho, _⟩ := hn4
    rw [← q] at hI0
    have ho : h4.get? L = some o := ho
    rw [hI0] at ho; cases ho
  refine ⟨I, [I], 5, _, _, h5, u5, rfl, rfl, W, by decide, hI, fun i h e => ⟨_, e⟩, fun b hb => by rw [List.mem_singleton.mp hb]; exact Heap.lt_size hI, hIL, hn4.keeps k5, fun C i v h6 u6 m6 E' hC hv hn6 hm6 hk6 => ?_, fun Fv h6 u6 ys vs hF0 hFz hF hlen hP hpair hnd hnF hn6 hk6 => ?_⟩
  · refine q_list (spliced_more (q_bytes fun tb ub => ?_))
    refine spliced_more (q_str fun ts us => ?_)
    refine spliced_none ⟨by show 2 ≤ 1000; decide, h6, _, rfl, fun h7 T k7 hT0 hTz hT => ?_⟩
    exact ⟨h7, _, rfl, k7, T, 0, tb, ts, rfl, hT0, hT⟩
  · have k46 : KeepS (· = L) h4 h6 := fun b o hb e => by
      have hbI : b ≠ I := fun q => by rw [q, hI0] at e; cases e
      have := hk6 b o hb hbI (k5 _ _ e)
      exact ⟨⟨o.slots, this⟩, fun _ => this⟩
    obtain ⟨nF, hF⟩ := hF
    have hz5 : nB ≤ h5.objs.size := nB_le (hn4.keeps k5) hL
    have bF : nB ≤ Fv := Nat.le_trans hz5 hFz
    have hF4 : h4.get? Fv = none := (KeepS.of_grow k5 : KeepS Nil h4 h5).none id hF0
    have get6 : ∀ {b arr n}, h4.get? b = some (lstO arr n) → h6.get? b = some (lstO arr n) := fun e => k46.get (fun q => ns_away hn4 _ _ _ _ q e rfl) e (by simp)
    have ylen : ys.toList.length = 5 := by rw [← hpair.length]; exact hlen
    obtain ⟨fi, S5⟩ := five_slots (h := h6) ys.toList (fun y hy => by
      obtain ⟨v, h3', _, T, n, t, u, e, _, hT⟩ := Paired.right hpair y hy
      exact ⟨T, n, t, u, e, hT⟩)
    rw [ylen] at S5
    refine hq h6 u6 Tt Ta Tb Fv ys fi ⟨S4.keep k46 (Fair.ns hn4 hL), ((HB.keep K3 fun _ q => q.elim).keep K4 fun b q => .inl (q ▸ hL)).keep k46 fun b q => .inl (q ▸ hL), TL4.keep k46 (Fair.ns hn4 hL), IsList.keepS hsc4 k46 fun q => absurd (q ▸ hs) (Nat.not_lt_of_le hL), ⟨_, get6 hTt4⟩, ⟨_, get6 hTa4⟩, ⟨_, get6 hTb4⟩, Slots.nil, Slots.nil, ⟨_, hF⟩, by simpa using S5, by simp, ?_, hL, hs, bA, bB, bF, ab, tA, tB, ?_, ?_, ?_⟩ hn6
    · exact F4.keepN' k46 hn6 fun _ _ _ _ q => q
    · intro q; rw [← q, hTt4] at hF4; cases hF4
    · intro q; rw [q, hTa4] at hF4; cases hF4
    · intro q; rw [q, hTb4] at hF4; cases hF4
end
end Mine
end
section
open PySem PySem.W PyProof.Rows PySem.Calls PySem.SeqAt
set_option maxRecDepth 100000
namespace Mine
def bBody : List Stmt := match lawS 2 with | .For _ _ b _ _ => b | _ => []
section
variable {w : World} {A : Around} {E : Value → Shared → Prop} {h h' hb : Heap} {g : Array GenState} {d : Drawn} {tk : Nat} {os : OsState} {mg mb m : PySem.Str → Option Value} {L sc Tt Ta Tb Fv : Addr} {items sa sb it0 it1 fa fi : Array Value} {xs0 xs1 fs : List Thing} {ls : List Env}
theorem q_plusL {b c : Addr} {xs ys : Array Value} {Q : Value → Shared → Prop} (hb : h.IsList b xs) (hc : h.IsList c ys) (hsz : xs.size + ys.size ≤ 10000)
    (hq : ∀ h2 R, Grow h h2 → h.get? R = none → h.objs.size ≤ R → h2.get? R = some (lstO (xs ++ ys) 0) → Q (.ref R) ⟨h2, g, d, tk, os⟩) : wpAny (model P w) A (binaryOp .Add (.ref b) (.ref c)) Q E ⟨h, g, d, tk, os⟩ := by
  obtain ⟨⟨c1, d1, dt1, sl1⟩, ho1, hc1, n1, hd1⟩ := hb
  obtain ⟨⟨c2, d2, dt2, sl2⟩, ho2, hc2, n2, hd2⟩ := hc
  simp only at hc1 hd1 hc2 hd2
  subst hc1 hd1 hc2 hd2
  refine concat_meets ⟨_, ho1, rfl⟩ ⟨_, ho2, rfl⟩ noFill_list_add seq_list_add PySem.F.slot_list_add PySem.F.entry_list_add (PySem.F.args_list_add_2 _ _) (list_addW b c xs ys n1 n2 d1 d2 sl1 sl2 (Nat.le_trans hsz (by decide +kernel))) ⟨ho1, ho2, ?_⟩
  exact hq _ _ (Grow.push _ _) (Heap.get?_none_of_le (Nat.le_refl _)) (Nat.le_refl _) (Heap.get?_push_size _ rfl)
/-- slot = .. -/
theorem b_slot {k : Int} {tx : Tok} {Q : Flow → Shared → Prop} (B : Bd mg mb hb L sc Tt Ta Tb Fv items sa sb it0 it1 xs0 xs1 fa fi fs ls h) (hn : h.Ns L m) (hx : m sX = some (.int k tx)) (hroom : A.depth < recursionLimit) (hA : A.handled = none)
    (hq : ∀ h' u sv v x, Bd mg mb hb L sc Tt Ta Tb Fv items sa sb it0 it1 xs0 xs1 fa fi fs ls h' → h'.Ns L (up sSlot sv m) → SlotIs h' sv v x → KeepS (· = L) h h' → Q .next ⟨h', g, d, u, os⟩) :
    wpAny (model P w) A (exec (bBody.getD 0 default) (lawEnv L)) Q E ⟨h, g, d, tk, os⟩ := by
  refine wpAny_Assign_Name (wpAny_IfExp ?_)
  refine wpAny_isTrue_Compare1 ?_
  refine wpAny_BinOp ?_
  refine q_name rfl rfl hn hx rfl ?_
  refine q_int fun _ _ => ?_
  refine q_mod (by decide) fun _ _ => ?_
  refine q_list (spliced_more (q_int fun t4 _ => ?_))
  refine spliced_more (q_int fun t5 _ => ?_)
  refine spliced_more (q_int fun t7 _ => ?_)
  refine spliced_none ⟨by show 3 ≤ 1000; decide, h, _, rfl, fun h1 R1 k1 _ _ hR1 => ?_⟩
  refine in_list_ints (vs := [.int 4 t4, .int 5 t5, .int 7 t7]) (ns := [4, 5, 7]) ⟨_, hR1, rfl, _, rfl⟩ (.cons _ _ (.cons _ _ (.cons _ _ .nil))) (wpAny_truthy_bool ?_)
  have B1 := B.grow k1
  have hn1 := hn.keeps k1
  have fin : ∀ h2 u2 R v x, Grow h1 h2 → SlotIs h2 (.ref R) v x → wpAny (model P w) A (storeName (lawEnv L) sSlot (.ref R)) (fun _ s' => Q .next s') E ⟨h2, g, d, u2, os⟩ := fun h2 u2 R v x k2 hs => by
    have hn2 := hn1.keeps k2
    refine q_store (by rfl) hn2 (by rfl) fun h3 u3 hn3 s3 => ?_
    have K3 : KeepS (· = L) h2 h3 := KeepS.loc s3
    refine hq h3 u3 (.ref R) v x ((B1.grow k2).loc hn2 s3 hn3) hn3 (hs.keep K3 (fun b arr n q e => absurd rfl (ns_away hn2 _ _ _ _ q e)) (fun b arr n q e => absurd rfl (ns_away hn2 _ _ _ _ q e))) (((KeepS.of_grow (k1.trans k2) : KeepS Nil h h2).mono fun _ q => q.elim).trans K3)
  split
  · obtain ⟨pm, hot⟩ := B1.sys.ot
    refine wpAny_Call_ofName ?_
    refine name_glob B1.sys.B rfl rfl (by rfl) B1.sys.N.ot rfl ?_
    refine callWith_def (fd := otFd pm) (o := { cls := .type "function", data := .func (otFd pm) }) rfl ?_
    refine spliced_more (wpAny_BinOp ?_)
    refine q_name rfl rfl hn1 hx rfl ?_
    refine q_int fun _ _ => ?_
    refine q_fdiv (by decide) (by decide) fun _ _ => ?_
    refine spliced_none ⟨hot, ?_⟩
    refine oth_call B1.sys hroom fun h2 R v x t2 u2 k2 hR0 hIs hok hnb hR => ?_
    refine fin h2 u2 R v x k2 ⟨R, 0, t2, rfl, ?_, hIs, hok⟩
    rw [show duePart x = dueOf x by simp [duePart, hnb]]
    exact hR
  · obtain ⟨pm, hoc⟩ := B1.sys.oc
    refine wpAny_Call_ofName ?_
    refine name_glob B1.sys.B rfl rfl (by rfl) B1.sys.N.oc rfl ?_
    refine callWith_def (fd := ocFd pm) (o := { cls := .type "function", data := .func (ocFd pm) }) rfl ?_
    refine spliced_more (wpAny_BinOp ?_)
    refine q_name rfl rfl hn1 hx rfl ?_
    refine q_int fun _ _ => ?_
    refine q_fdiv (by decide) (by decide) fun _ _ => ?_
    refine spliced_none ⟨hoc, ?_⟩
    refine oct_call B1.sys hroom hA fun h2 R b t1 t2 u2 k2 hR0 hb hR => ?_
    exact fin h2 u2 R (.bytes b t1) (.bytes b) k2 ⟨R, 0, t2, rfl, hR, rfl, hb⟩
end
end Mine
end
section
open PySem PySem.W PyProof.Rows PySem.Calls PySem.SeqAt
set_option maxRecDepth 100000
namespace Mine
theorem bads_snoc (xs : List Thing) (x : Thing) : bads (xs ++ [x]) ≤ bads xs + 1 := by
  unfold bads
  rw [List.countP_append]
  have : List.countP (fun x => !x.isB) [x] ≤ 1 := List.countP_le_length
  omega
theorem bads_set (x : Thing) : ∀ (fs : List Thing) (i : Nat), bads (fs.set i x) ≤ bads fs + 1
  | [], i => by simp [bads]
  | y :: fs, 0 => by
    show bads (x :: fs) ≤ bads (y :: fs) + 1
    rw [bads_cons, bads_cons]
    split <;> omega
  | y :: fs, i + 1 => by
    show bads (y :: fs.set i x) ≤ bads (y :: fs) + 1
    rw [bads_cons, bads_cons]
    have := bads_set x fs i
    omega
section
variable {w : World} {A : Around} {E : Value → Shared → Prop} {h h' hb : Heap} {g : Array GenState} {d : Drawn} {tk : Nat} {os : OsState} {mg mb m : PySem.Str → Option Value} {L sc Tt Ta Tb Fv : Addr} {items sa sb it0 it1 fa fi : Array Value} {xs0 xs1 fs : List Thing} {ls : List Env}
theorem b_put {k : Int} {tx : Tok} {sv v : Value} {x : Thing} {Q : Flow → Shared → Prop} (B : Bd mg mb hb L sc Tt Ta Tb Fv items sa sb it0 it1 xs0 xs1 fa fi fs ls h) (hn : h.Ns L m) (hx : m sX = some (.int k tx)) (hth : m sThings = some (.ref Tt)) (hfv : m sFive = some (.ref Fv)) (hsl : m sSlot = some sv)
    (hS : SlotIs h sv v x) (z0 : xs0.length ≤ 100) (z1 : xs1.length ≤ 100)
    (hq : ∀ h' u sa' sb' it0' it1' xs0' xs1' fa' fi' fs', Bd mg mb hb L sc Tt Ta Tb Fv items sa' sb' it0' it1' xs0' xs1' fa' fi' fs' ls h' → h'.Ns L m → xs0'.length + xs1'.length ≤ xs0.length + xs1.length + 1 →
      bads xs0' + bads xs1' + bads fs' ≤ bads xs0 + bads xs1 + bads fs + 1 → KeepS (fun b => b = Ta ∨ b = Tb ∨ b = Fv) h h' → Q .next ⟨h', g, d, u, os⟩) :
    wpAny (model P w) A (exec (bBody.getD 1 default) (lawEnv L)) Q E ⟨h, g, d, tk, os⟩ := by
  obtain ⟨nT, hT⟩ := B.tt
  obtain ⟨nA, hTa⟩ := B.ta
  obtain ⟨nb, hTb⟩ := B.tb
  obtain ⟨nF, hF⟩ := B.fv
  have neL : ∀ {b arr n}, h.get? b = some (lstO arr n) → ¬ L = b := fun e q => ns_away hn _ _ _ _ q.symm e rfl
  refine wpAny_If (wpAny_isTrue_Compare1 ?_)
  refine wpAny_BinOp ?_
  refine q_name rfl rfl hn hx rfl ?_
  refine q_int fun _ _ => ?_
  refine q_mod (by decide) fun _ _ => ?_
  refine q_int fun _ _ => ?_
  refine q_lt ?_
  by_cases hc : k.fmod 8 < 6
  · rw [decide_eq_true hc, if_pos rfl]
    refine wpAny_execs_cons (wpAny_Expr_any ?_)
    refine wpAny_Call_append (by rfl) (by rfl) (by rfl) (by rfl) ?_
    refine Subscript_ ?_
    refine q_name rfl rfl hn hth rfl ?_
    refine wpAny_BinOp ?_
    refine q_name rfl rfl hn hx rfl ?_
    refine q_int fun _ _ => ?_
    refine q_mod (by decide) fun _ _ => ?_
    have hm0 : 0 ≤ k.fmod 2 := Int.fmod_nonneg_of_pos k (by decide)
    have hm1 : k.fmod 2 < 2 := Int.fmod_lt_of_pos k (by decide)
    by_cases h0 : k.fmod 2 = 0
    · refine q_item (n := 0) ⟨_, hT, rfl, _, rfl⟩ (by omega) (by decide) rfl ⟨Ta, _, rfl, ⟨_, _, hTa, rfl, rfl, rfl⟩, ?_⟩
      refine q_name rfl rfl hn hsl rfl ?_
      refine wpAny_list_append_plain ⟨_, hTa⟩ (fun h5 hA5 s5 => ?_) (Nat.le_trans (show _ ≤ 100 by rw [B.s0.len]; exact z0) (by decide +kernel))
      have K5 : KeepS (· = Ta) h h5 := KeepS.loc s5
      have hX : ∀ b, b = Ta → b = Ta ∨ b = Tb ∨ b = Fv := fun b q => .inl q
      show wpAny _ _ (execs [] _) _ _ _
      refine wpAny_execs_nil ?_
      refine hq h5 _ (sa.push sv) sb (it0.push v) it1 (xs0 ++ [x]) xs1 fa fi fs (B.step K5 hX hA5 ⟨nb, K5.get (Ne.symm B.ab) hTb (by simp)⟩ ⟨nF, K5.get B.fA hF (by simp)⟩ ((B.slots K5 hX B.s0).push (B.slot K5 hX hS)) (B.slots K5 hX B.s1) (B.slots K5 hX B.s5) B.five) (K5.ns (neL hTa) hn) (by simp; omega) ?_ (K5.mono hX)
      have := bads_snoc xs0 x
      omega
    · refine q_item (n := 1) ⟨_, hT, rfl, _, rfl⟩ (by omega) (by decide) rfl ⟨Tb, _, rfl, ⟨_, _, hTb, rfl, rfl, rfl⟩, ?_⟩
      refine q_name rfl rfl hn hsl rfl ?_
      refine wpAny_list_append_plain ⟨_, hTb⟩ (fun h5 hA5 s5 => ?_) (Nat.le_trans (show _ ≤ 100 by rw [B.s1.len]; exact z1) (by decide +kernel))
      have K5 : KeepS (· = Tb) h h5 := KeepS.loc s5
      have hX : ∀ b, b = Tb → b = Ta ∨ b = Tb ∨ b = Fv := fun b q => .inr (.inl q)
      show wpAny _ _ (execs [] _) _ _ _
      refine wpAny_execs_nil ?_
      refine hq h5 _ sa (sb.push sv) it0 (it1.push v) xs0 (xs1 ++ [x]) fa fi fs (B.step K5 hX ⟨nA, K5.get B.ab hTa (by simp)⟩ hA5 ⟨nF, K5.get B.fB hF (by simp)⟩ (B.slots K5 hX B.s0) ((B.slots K5 hX B.s1).push (B.slot K5 hX hS)) (B.slots K5 hX B.s5) B.five) (K5.ns (neL hTb) hn) (by simp; omega) ?_ (K5.mono hX)
      have := bads_snoc xs1 x
      omega
  · rw [decide_eq_false hc, if_neg (by simp)]
    refine wpAny_execs_cons (wpAny_Assign_Subscript ?_)
    refine q_name rfl rfl hn hsl rfl ?_
    refine q_name rfl rfl hn hfv rfl ?_
    refine wpAny_BinOp (wpAny_BinOp ?_)
    refine q_name rfl rfl hn hx rfl ?_
    refine q_int fun _ _ => ?_
    refine q_fdiv (by decide) (by decide) fun _ _ => ?_
    refine q_int fun _ _ => ?_
    refine q_mod (by decide) fun _ _ => ?_
    have hm0 : 0 ≤ (k.fdiv 8).fmod 5 := Int.fmod_nonneg_of_pos _ (by decide)
    have hm1 : (k.fdiv 8).fmod 5 < 5 := Int.fmod_lt_of_pos _ (by decide)
    obtain ⟨n, hn5⟩ : ∃ n : Nat, (k.fdiv 8).fmod 5 = (n : Int) := ⟨_, (Int.toNat_of_nonneg hm0).symm⟩
    have hfa : fa.size = 5 := by rw [B.s5.len, B.five]
    refine q_set (n := n) hF hn5 (by omega) (by omega) fun h5 c5 h5F s5 => ?_
    have K5 : KeepS (· = Fv) h h5 := KeepS.loc s5
    have hX : ∀ b, b = Fv → b = Ta ∨ b = Tb ∨ b = Fv := fun b q => .inr (.inr q)
    show wpAny _ _ (execs [] _) _ _ _
    refine wpAny_execs_nil ?_
    refine hq h5 _ sa sb it0 it1 xs0 xs1 _ (fi.setIfInBounds n v) (fs.set n x) (B.step K5 hX ⟨nA, K5.get (Ne.symm B.fA) hTa (by simp)⟩ ⟨nb, K5.get (Ne.symm B.fB) hTb (by simp)⟩ ⟨c5, h5F⟩ (B.slots K5 hX B.s0) (B.slots K5 hX B.s1) ((B.slots K5 hX B.s5).set2 n (B.slot K5 hX hS)) (by simp [B.five])) (K5.ns (neL hF) hn) (by omega) ?_ (K5.mono hX)
    have := bads_set x fs n
    omega
end
end Mine
end
section
open PySem PySem.W PyProof.Rows PySem.Calls PySem.SeqAt
set_option maxRecDepth 100000
namespace Mine
theorem bBody_eq : bBody = [bBody.getD 0 default, bBody.getD 1 default] := by kernel_rfl
section
variable {w : World} {A : Around} {E : Value → Shared → Prop} {h h' hb : Heap} {g : Array GenState} {d : Drawn} {tk : Nat} {os : OsState} {mg mb m : PySem.Str → Option Value} {L sc Tt Ta Tb Fv : Addr} {items sa sb it0 it1 fa fi : Array Value} {xs0 xs1 fs : List Thing} {ls : List Env}
theorem b_turn {k : Int} {tx : Tok} {Q : Flow → Shared → Prop} (B : Bd mg mb hb L sc Tt Ta Tb Fv items sa sb it0 it1 xs0 xs1 fa fi fs ls h) (hn : h.Ns L m) (hx : m sX = some (.int k tx)) (hth : m sThings = some (.ref Tt)) (hfv : m sFive = some (.ref Fv))
    (hroom : A.depth < recursionLimit) (hA : A.handled = none) (z0 : xs0.length ≤ 100) (z1 : xs1.length ≤ 100)
    (hq : ∀ h' u sv sa' sb' it0' it1' xs0' xs1' fa' fi' fs', Bd mg mb hb L sc Tt Ta Tb Fv items sa' sb' it0' it1' xs0' xs1' fa' fi' fs' ls h' → h'.Ns L (up sSlot sv m) → xs0'.length + xs1'.length ≤ xs0.length + xs1.length + 1 →
      bads xs0' + bads xs1' + bads fs' ≤ bads xs0 + bads xs1 + bads fs + 1 → KeepS (fun b => b = L ∨ b = Ta ∨ b = Tb ∨ b = Fv) h h' → Q .next ⟨h', g, d, u, os⟩) :
    wpAny (model P w) A (execs bBody (lawEnv L)) Q E ⟨h, g, d, tk, os⟩ := by
  rw [bBody_eq]
  refine wpAny_execs_cons (b_slot B hn hx hroom hA fun h1 u1 sv v x B1 hn1 hS K1 => ?_)
  show wpAny _ _ (execs _ _) _ _ _
  refine wpAny_execs_cons (b_put B1 hn1 (k := k) (tx := tx) hx hth hfv rfl hS z0 z1 fun h2 u2 sa' sb' it0' it1' xs0' xs1' fa' fi' fs' B2 hn2 hl hb K2 => ?_)
  show wpAny _ _ (execs _ _) _ _ _
  exact wpAny_execs_nil (hq h2 u2 sv sa' sb' it0' it1' xs0' xs1' fa' fi' fs' B2 hn2 hl hb ((K1.mono fun _ q => .inl q).trans (K2.mono fun _ q => .inr q)))
theorem b_loop {rest : List Stmt} {Q : Flow → Shared → Prop} (B : Bd mg mb hb L sc Tt Ta Tb Fv items #[] #[] #[] #[] [] [] fa fi (List.replicate 5 (.bytes #[])) ls h) (hn : h.Ns L m) (hscr : m sScript = some (.ref sc)) (hth : m sThings = some (.ref Tt)) (hfv : m sFive = some (.ref Fv))
    (hint : ∀ (j : Nat) (v : Value), items[j]? = some v → ∃ k t, v = .int k t) (hsz : items.size ≤ 63) (hroom : A.depth < recursionLimit) (hA : A.handled = none)
    (hq : ∀ h' u m' sa sb it0 it1 xs0 xs1 fa fi fs, Bd mg mb hb L sc Tt Ta Tb Fv items sa sb it0 it1 xs0 xs1 fa fi fs ls h' → h'.Ns L m' → m' sScript = some (.ref sc) → m' sThings = some (.ref Tt) → m' sFive = some (.ref Fv) → xs0.length + xs1.length ≤ items.size + 8 →
      bads xs0 + bads xs1 + bads fs ≤ items.size + 8 → wpAny (model P w) A (execs rest (lawEnv L)) Q E ⟨h', g, d, u, os⟩) :
    wpAny (model P w) A (execs (lawS 2 :: rest) (lawEnv L)) Q E ⟨h, g, d, tk, os⟩ := by
  have hz := nB_le hn B.bL
  refine wpAny_execs_cons (wpAny_For ?_)
  refine wpAny_BinOp ?_
  refine q_name rfl rfl hn hscr rfl ?_
  refine q_list (spliced_more (q_int fun c0 _ => ?_))
  refine spliced_more (q_int fun c1 _ => ?_)
  refine spliced_more (q_int fun c2 _ => ?_)
  refine spliced_more (q_int fun c3 _ => ?_)
  refine spliced_more (q_int fun c4 _ => ?_)
  refine spliced_more (q_int fun c5 _ => ?_)
  refine spliced_more (q_int fun c6 _ => ?_)
  refine spliced_more (q_int fun c7 _ => ?_)
  refine spliced_none ⟨by show 8 ≤ 1000; decide, h, _, rfl, fun h1 R1 k1 hR10 hR1z hR1 => ?_⟩
  have B1 := B.grow k1
  refine q_plusL B1.scr ⟨_, hR1, rfl, _, rfl⟩ (by simp; omega) fun h2 R k2 hR0 hRz hR => ?_
  have B2 := B1.grow k2
  generalize harr : items ++ [Value.int 0 c0, Value.int 24040 c1, Value.int 4 c2, Value.int 80 c3, Value.int 24080 c4, Value.int 24041 c5, Value.int 121 c6, Value.int 24054 c7].toArray = arr at hR
  have hasz : arr.size = items.size + 8 := by rw [← harr]; simp
  have haint : ∀ (j : Nat) (v : Value), arr[j]? = some v → ∃ k t, v = .int k t := fun j v e => by
    rw [← harr, Array.getElem?_append] at e
    split at e
    · exact hint j v e
    · generalize j - items.size = i at e
      rcases i with _ | _ | _ | _ | _ | _ | _ | _ | i
      · cases e; exact ⟨_, _, rfl⟩
      · cases e; exact ⟨_, _, rfl⟩
      · cases e; exact ⟨_, _, rfl⟩
      · cases e; exact ⟨_, _, rfl⟩
      · cases e; exact ⟨_, _, rfl⟩
      · cases e; exact ⟨_, _, rfl⟩
      · cases e; exact ⟨_, _, rfl⟩
      · cases e; exact ⟨_, _, rfl⟩
      · simp at e
  have hl : h2.IsList R arr := ⟨_, hR, rfl, _, rfl⟩
  refine wpAny_pyIter_list hl ?_
  generalize hI : h2.objs.size = I
  have hRI : R ≠ I := by rw [← hI]; exact Nat.ne_of_lt (Heap.lt_size hR)
  have hz2 : nB ≤ I := hI ▸ nB_le ((hn.keeps k1).keeps k2) B.bL
  have W := Walks.list (prog := P) (w := w) hA I R hRI arr
  have k3 : Grow h2 (h2.push { cls := .type "list_iterator", data := .fields #[.ref R, .int 0 0] }) := Grow.push _ _
  have hI3 : (h2.push { cls := .type "list_iterator", data := .fields #[.ref R, .int 0 0] }).IsListIter I R 0 := ⟨_, hI ▸ Heap.get?_push_size _ rfl, rfl, rfl⟩
  have hI0 : h2.get? I = none := Heap.get?_none_of_le (Nat.le_of_eq hI)
  have hR00 : h.get? R = none := (KeepS.of_grow k1 : KeepS Nil h h1).none id hR0
  have hI00 : h.get? I = none := (KeepS.of_grow (k1.trans k2) : KeepS Nil h h2).none id hI0
  have oldR : ∀ {b o}, h.get? b = some o → ¬ R = b := fun e q => by rw [← q, hR00] at e; cases e
  have oldI : ∀ {b o}, h.get? b = some o → ¬ I = b := fun e q => by rw [← q, hI00] at e; cases e
  obtain ⟨oL, _, _, hoL, _⟩ := id hn
  obtain ⟨nA, hTa⟩ := B.ta
  obtain ⟨nb, hTb⟩ := B.tb
  obtain ⟨nF, hF⟩ := B.fv
  have X4R : ¬ (R = L ∨ R = Ta ∨ R = Tb ∨ R = Fv) := fun q => by
    rcases q with q | q | q | q
    · exact oldR hoL q
    · exact oldR hTa q
    · exact oldR hTb q
    · exact oldR hF q
  have X4I : ¬ (I = L ∨ I = Ta ∨ I = Tb ∨ I = Fv) := fun q => by
    rcases q with q | q | q | q
    · exact oldI hoL q
    · exact oldI hTa q
    · exact oldI hTb q
    · exact oldI hF q
  have toK : ∀ {hx hy : Heap}, (∀ b o, b ∉ [I] → hx.get? b = some o → hy.get? b = some o) → KeepS (· = I) hx hy := fun k2 b o hb e => ⟨⟨o.slots, k2 b o (fun q => hb (List.mem_singleton.mp q)) e⟩, fun _ => k2 b o (fun q => hb (List.mem_singleton.mp q)) e⟩
  obtain ⟨J0, hJ0⟩ : ∃ J : Nat → Shared → Prop, ∀ n s, J n s ↔ (∃ i h' m' u sa sb it0 it1 xs0 xs1 fa fi fs, n + i = arr.size + 1 ∧ i ≤ arr.size ∧ s = ⟨h', g, d, u, os⟩ ∧ Bd mg mb hb L sc Tt Ta Tb Fv items sa sb it0 it1 xs0 xs1 fa fi fs ls h' ∧ h'.Ns L m' ∧ m' sScript = some (.ref sc) ∧ m' sThings = some (.ref Tt) ∧ m' sFive = some (.ref Fv) ∧
    xs0.length + xs1.length ≤ i ∧ bads xs0 + bads xs1 + bads fs ≤ i ∧ h'.IsListIter I R i ∧ h'.IsList R arr) := ⟨_, fun _ _ => Iff.rfl⟩
  refine codeAny_forLoop_any (I := J0) ?_ (arr.size + 1) ((hJ0 _ _).mpr
    ⟨0, _, m, _, #[], #[], #[], #[], [], [], fa, fi, _, rfl, Nat.zero_le _, rfl, B2.grow k3, ((hn.keeps k1).keeps k2).keeps k3, hscr, hth, hfv, by simp, by decide, hI3, hl.push _⟩)
  rintro n s hIn
  obtain ⟨i, h4, m4, u4, sa4, sb4, p0, p1, y0, y1, fa4, fi4, fs4, hni, hi, rfl, B4, hn4, hs4, ht4, hf4, hl4, hb4, hI4, hR4⟩ := (hJ0 n s).mp hIn
  obtain ⟨oI, hoI, hcI, hdI⟩ := id hI4
  by_cases hlt : i < arr.size
  · refine W.item i _ _ _ hlt ⟨hI4, hR4⟩ fun v h5 tk5 hv hst5 k5 => ?_
    obtain ⟨k, tx, rfl⟩ := haint i v hv
    refine wpAny_of_eq (a := ()) (by rfl) ?_
    have K5 := toK k5
    have B5 := B4.it hoI hcI hdI hz2 K5
    have hn5 := K5.ns (fun q => X4I (.inl q.symm)) hn4
    refine wpAny_assign_Name (q_store (by rfl) hn5 (by rfl) fun h6 u6 hn6 s6 => ?_)
    have B6 := B5.loc hn5 s6 hn6
    have K6 : KeepS (· = L) h5 h6 := KeepS.loc s6
    have z0 : y0.length ≤ 100 := by omega
    have z1 : y1.length ≤ 100 := by omega
    refine b_turn B6 hn6 (k := k) (tx := tx) rfl ht4 hf4 hroom hA z0 z1 fun h7 u7 sv sa7 sb7 q0 q1 w0 w1 fa7 fi7 fs7 B7 hn7 hl7 hb7 K7 => ?_
    have K57 : KeepS (fun b => b = L ∨ b = Ta ∨ b = Tb ∨ b = Fv) h5 h7 := (K6.mono fun _ q => .inl q).trans K7
    have it7 : h7.IsListIter I R (i + 1) := by
      obtain ⟨o, ho, hc, hd⟩ := hst5.1
      exact ⟨o, K57.get X4I ho (fun es n q => by rw [hd] at q; cases q), hc, hd⟩
    exact ⟨n - 1, by omega, (hJ0 _ _).mpr ⟨i + 1, h7, _, u7, sa7, sb7, q0, q1, w0, w1, fa7, fi7, fs7, by omega, hlt, rfl, B7, hn7, hs4, ht4, hf4, by omega, by omega, it7, IsList.keepS hst5.2 K57 X4R⟩⟩
  · have : i = arr.size := by omega
    subst this
    refine W.done _ _ _ ⟨hI4, hR4⟩ fun h5 tk5 k5 => ?_
    have K5 := toK k5
    refine wpAny_execs_nil ?_
    show wpAny _ _ (execs rest _) _ _ _
    exact hq h5 tk5 m4 sa4 sb4 p0 p1 y0 y1 fa4 fi4 fs4 (B4.it hoI hcI hdI hz2 K5) (K5.ns (fun q => X4I (.inl q.symm)) hn4) hs4 ht4 hf4 (by omega) (by omega)
end
end Mine
end
section
open PySem PySem.W PyProof.Rows PySem.Calls PySem.SeqAt
set_option maxRecDepth 100000
namespace Mine
abbrev itO (l : Addr) : Obj := { cls := .type "list_iterator", data := .fields #[.ref l, .int 0 0] }
def Nwell (Ta Tb : Addr) (it0 it1 : Array Value) (h0 h : Heap) (v y : Value) : Prop :=
  ∃ W l n vals, y = .ref W ∧ h0.get? W = none ∧ nB ≤ W ∧ h0.get? l = none ∧ h.get? W = some (itO l) ∧ h.get? l = some (lstO vals n) ∧ ((v = .ref Ta ∧ vals = it0) ∨ (v = .ref Tb ∧ vals = it1))
def wellElt : Expr := match lawS 3 with | .Assign _ (.ListComp e _ _ _) _ => e | _ => .Constant .none 0 default
def wellScope : Scope := match lawS 3 with | .Assign _ (.ListComp _ _ sc _) _ => sc | _ => default
theorem paired2 {F : Value → Value → Prop} {vs yl : List Value} (h : Paired F vs yl) (hl : vs.length = 2) : ∃ v0 v1 y0 y1, vs = [v0, v1] ∧ yl = [y0, y1] ∧ F v0 y0 ∧ F v1 y1 := by
  cases h with
  | nil => simp at hl
  | cons a t =>
    cases t with
    | nil => simp at hl
    | cons b u =>
      cases u with
      | nil => exact ⟨_, _, _, _, rfl, rfl, a, b⟩
      | cons c v => simp at hl
section
variable {w : World} {A : Around} {E : Value → Shared → Prop} {h h' hb : Heap} {g : Array GenState} {d : Drawn} {tk : Nat} {os : OsState} {mg mb m : PySem.Str → Option Value} {L sc Tt Ta Tb Fv : Addr} {items sa sb it0 it1 fa fi : Array Value} {xs0 xs1 fs : List Thing} {ls : List Env}
theorem q_iter {l : Addr} {arr : Array Value} {Q : Value → Shared → Prop} (hl : h.IsList l arr) (hq : ∀ h' W, Grow h h' → h.get? W = none → h.objs.size ≤ W → h'.get? W = some (itO l) → Q (.ref W) ⟨h', g, d, tk, os⟩) :
    wpAny (model P w) A (call (.builtin "iter") [.ref l]) Q E ⟨h, g, d, tk, os⟩ := by
  refine call_function_entry (by decide +kernel) (by decide +kernel) kdk_entry_iter (kdk_args_iter _) ?_
  unfold Builtin.«iter»
  refine wpAny_bind (m := someArgs "iter" 1 2 _) (wpAny_of_eq (a := [Value.ref l]) (by first | rfl | kernel_rfl!) ?_)
  show wpAny _ _ (pyIter (.ref l) >>= _) _ _ _
  refine wpAny_bind (wpAny_pyIter_list hl ?_)
  exact wpAny_pure ⟨_, rfl, hq _ _ (Grow.push _ _) (Heap.get?_none_of_le (Nat.le_refl _)) (Nat.le_refl _) (Heap.get?_push_size _ rfl)⟩
theorem b_wells {rest : List Stmt} {Q : Flow → Shared → Prop} (B : Bd mg mb hb L sc Tt Ta Tb Fv items sa sb it0 it1 xs0 xs1 fa fi fs ls h) (hn : h.Ns L m) (hth : m sThings = some (.ref Tt)) (hA : A.handled = none) (z0 : xs0.length ≤ 100) (z1 : xs1.length ≤ 100)
    (hq : ∀ h' u Wl W0 W1 la lb, Bd mg mb hb L sc Tt Ta Tb Fv items sa sb it0 it1 xs0 xs1 fa fi fs ls h' → h'.Ns L (up (PySem.Str.ofString "wells") (.ref Wl) m) → (∃ n, h'.get? Wl = some (lstO #[.ref W0, .ref W1] n)) → W0 ≠ W1 → nB ≤ W0 → nB ≤ W1 →
      h'.get? W0 = some (itO la) → h'.get? W1 = some (itO lb) → (∃ n, h'.get? la = some (lstO it0 n)) → (∃ n, h'.get? lb = some (lstO it1 n)) → h.get? la = none → h.get? lb = none →
      wpAny (model P w) A (execs rest (lawEnv L)) Q E ⟨h', g, d, u, os⟩) :
    wpAny (model P w) A (execs (lawS 3 :: rest) (lawEnv L)) Q E ⟨h, g, d, tk, os⟩ := by
  obtain ⟨nT, hT⟩ := B.tt
  obtain ⟨nA, hTa⟩ := B.ta
  obtain ⟨nb, hTb⟩ := B.tb
  have hz := nB_le hn B.bL
  refine wpAny_execs_cons ?_
  refine assign_make (env := lawEnv L) (m := m) (Nwell Ta Tb it0 it1) (fun h0 h h' v y hy hk => ?_) (fun h0 h v y hy => ?_) (by rfl) (by decide) (by decide) (by rfl) (by decide) (by rfl) (by rfl) (by rfl) ?_
  · obtain ⟨W, l, n, vals, e, hW0, hWz, hl0, hW, hl, hv⟩ := hy
    exact ⟨W, l, n, vals, e, hW0, hWz, hl0, hk _ _ hW0 hW, hk _ _ hl0 hl, hv⟩
  · obtain ⟨W, l, n, vals, e, hW0, hWz, hl0, hW, hl, hv⟩ := hy
    exact ⟨W, _, e, hW0, hW⟩
  have hl : h.IsList Tt #[.ref Ta, .ref Tb] := ⟨_, hT, rfl, _, rfl⟩
  refine q_name rfl rfl hn hth rfl ?_
  refine wpAny_pyIter_list hl ?_
  generalize hI : h.objs.size = I
  have hTI : Tt ≠ I := by rw [← hI]; exact Nat.ne_of_lt (Heap.lt_size hT)
  have k1 : Grow h (h.push { cls := .type "list_iterator", data := .fields #[.ref Tt, .int 0 0] }) := Grow.push _ _
  have hI1 : (h.push { cls := .type "list_iterator", data := .fields #[.ref Tt, .int 0 0] }).IsListIter I Tt 0 := ⟨_, hI ▸ Heap.get?_push_size _ rfl, rfl, rfl⟩
  have hI0 : h.get? I = none := Heap.get?_none_of_le (Nat.le_of_eq hI)
  generalize h.push { cls := .type "list_iterator", data := .fields #[.ref Tt, .int 0 0] } = h1 at k1 hI1
  have B1 := B.grow k1
  have hn1 := hn.keeps k1
  have oldI : ∀ {b o}, h.get? b = some o → b ≠ I := fun e q => by rw [q, hI0] at e; cases e
  obtain ⟨oL, _, _, hoL, _⟩ := id hn
  obtain ⟨oI, hoI, hcI, hdI⟩ := id hI1
  refine ⟨I, [I, Tt], 2, _, _, h1, _, rfl, rfl, Walks.list (prog := P) (w := w) hA I Tt hTI #[.ref Ta, .ref Tb], by decide, ⟨hI1, hl.at fun o e => k1 _ o e⟩, fun i h e => by obtain ⟨o, ho, _⟩ := e.1; exact ⟨o, ho⟩, fun b hb => ?_, oldI hoL, hn1, fun C i v h3 u3 m3 E' hC hv hn3 hm3 hk3 => ?_, fun Wl h3 u3 ys vs hW0 hWz hWl hlen hP hpair hnd hnW hn3 hk3 => ?_⟩
  · rcases List.mem_cons.mp hb with rfl | hb
    · exact Heap.lt_size hoI
    · rw [List.mem_singleton.mp hb]; exact Heap.lt_size (k1 _ _ hT)
  · have K3 : KeepS (· = I) h1 h3 := fun b o hb e => ⟨⟨o.slots, hk3 b o hb e⟩, fun _ => hk3 b o hb e⟩
    have B3 := B1.it hoI hcI hdI (hI ▸ hz) K3
    -- row by row
    have go : ∀ {T : Addr} {arr vals : Array Value} {n : Nat}, v = .ref T → h3.get? T = some (lstO arr n) → Heads h3 arr vals → arr.size ≤ 100 → ((v = .ref Ta ∧ vals = it0) ∨ (v = .ref Tb ∧ vals = it1)) →
        wpAny (model P w) A (eval wellElt (compEnvC wellScope [] C (lawEnv L)))
          (fun y s4 => ∃ h4 u4, s4 = ⟨h4, g, d, u4, os⟩ ∧ Grow h3 h4 ∧ Nwell Ta Tb it0 it1 h3 h4 v y) E' ⟨h3, g, d, u3, os⟩ := fun hvT hTo hH hsz hvv => by
      refine wpAny_Call_ofName ?_
      refine name_bui B3.sys.N B3.sys.B rfl rfl rfl (by rfl) (B3.sys.N.no _ (by decide)) (by decide) (v := .builtin "iter") (by decide +kernel) (by decide) ?_
      refine PyProof.Rows.callWith_builtin1 ?_
      refine spliced_more ?_
      refine comp_heads hA hH (by omega) (by decide) (by decide) (by rfl) (by decide) (by rfl) (by intro _; rfl) ?_
      refine q_name rfl rfl hn3 (hm3.trans (congrArg some hvT)) rfl ⟨_, h3, _, rfl, rfl, ⟨_, hTo, rfl, _, rfl⟩, Grow.refl _, fun h4 l n u4 k4 hl0 hl4 => ?_⟩
      refine spliced_none ?_
      refine q_iter ⟨_, hl4, rfl, _, rfl⟩ fun h5 W k5 hW0 hWz hW => ?_
      have hz4 : nB ≤ h4.objs.size := Nat.le_of_lt (Nat.lt_of_le_of_lt (Nat.le_trans (nB_le hn1 B.bL) hC) (hn3.keeps k4).lt)
      exact ⟨h5, _, rfl, k4.trans k5, W, l, n, _, rfl, (KeepS.of_grow k4 : KeepS Nil h3 h4).none id hW0, Nat.le_trans hz4 hWz, hl0, hW, k5 _ _ hl4, hvv⟩
    have hv : (#[Value.ref Ta, Value.ref Tb] : Array Value)[i]? = some v := hv
    rcases i with _ | _ | i
    · have e : v = .ref Ta := by simpa using hv.symm
      obtain ⟨n3, e3⟩ := B3.ta
      exact go e e3 B3.s0.heads (by rw [B.s0.len]; exact z0) (.inl ⟨e, rfl⟩)
    · have e : v = .ref Tb := by simpa using hv.symm
      obtain ⟨n3, e3⟩ := B3.tb
      exact go e e3 B3.s1.heads (by rw [B.s1.len]; exact z1) (.inr ⟨e, rfl⟩)
    · simp at hv
  · have K3 : KeepS (fun b => b = L ∨ b = I) h1 h3 := fun b o hb e => by
      have := hk3 b o (fun q => hb (.inl q)) (fun q => hb (.inr q)) e
      exact ⟨⟨o.slots, this⟩, fun _ => this⟩
    have B3 : Bd mg mb hb L sc Tt Ta Tb Fv items sa sb it0 it1 xs0 xs1 fa fi fs ls h3 := by
      refine B1.away K3 (fun b o vs n q e hq => ?_) (Fair.or (Fair.ns hn1 B.bL) (Fair.cls hoI (by rw [hcI]; decide) (hI ▸ hz))) (B1.fr.keepN' K3 hn3 fun env he L' hf q => ?_)
      · rcases q with q | q
        · exact ns_away hn1 _ _ _ _ q e hq
        · rw [q, hoI] at e; cases e; rw [hdI] at hq; cases hq
      · rcases q with q | q
        · exact q
        · exact absurd (q ▸ hf) (B1.fr.not_mem hoI (fun es n q => by rw [hdI] at q; cases q) env he)
    obtain ⟨yl⟩ := ys
    obtain ⟨v0, v1, y0, y1, rfl, hyl, r0, r1⟩ := paired2 hpair hlen
    have hyl : yl = [y0, y1] := hyl
    subst hyl
    have e0 : v0 = .ref Ta := by
      have : (#[Value.ref Ta, Value.ref Tb] : Array Value)[0]? = some v0 := hP 0 v0 rfl
      simpa using this.symm
    have e1 : v1 = .ref Tb := by
      have : (#[Value.ref Ta, Value.ref Tb] : Array Value)[1]? = some v1 := hP 1 v1 rfl
      simpa using this.symm
    obtain ⟨g0, live0, W0, la, n0, vals0, rfl, hW00, hWz0, hl00, hWo0, hlo0, hv0⟩ := r0
    obtain ⟨g1, live1, W1, lb, n1, vals1, rfl, hW01, hWz1, hl01, hWo1, hlo1, hv1⟩ := r1
    have fresh : ∀ {g' : Heap} {l : Addr}, (∀ b o, h1.get? b = some o → ∃ o', g'.get? b = some o') → g'.get? l = none → h.get? l = none := fun lv hl => by
      rename_i g' l
      cases hz : h.get? l with
      | none => rfl
      | some o =>
        obtain ⟨o', ho'⟩ := lv l o (k1 _ _ hz)
        rw [hl] at ho'; cases ho'
    have hva : vals0 = it0 := by
      rcases hv0 with ⟨_, q⟩ | ⟨q, _⟩
      · exact q
      · rw [e0] at q; cases q; exact absurd rfl B.ab
    have hvb : vals1 = it1 := by
      rcases hv1 with ⟨q, _⟩ | ⟨_, q⟩
      · rw [e1] at q; cases q; exact absurd rfl B.ab
      · exact q
    subst hva hvb
    have hne : W0 ≠ W1 := fun q => by
      have := List.pairwise_cons.mp hnd
      exact this.1 (.ref W1) (by simp) (by rw [q])
    exact hq h3 u3 Wl W0 W1 la lb B3 hn3 hWl hne hWz0 hWz1 hWo0 hWo1 ⟨_, hlo0⟩ ⟨_, hlo1⟩ (fresh live0 hl00) (fresh live1 hl01)
end
end Mine
end
section
open PySem PySem.W PyProof.Rows PySem.Calls PySem.SeqAt
set_option maxRecDepth 100000
namespace Mine
theorem lam_nofree : ∀ x ∈ lamScope.names, x.2 ≠ .free := by decide
theorem echoLam_eq : echoLam = .Lambda lamParams lamBody lamScope lamPos := by kernel_rfl
section
variable {w : World} {A : Around} {E : Value → Shared → Prop} {h h' hb : Heap} {g : Array GenState} {d : Drawn} {tk : Nat} {os : OsState} {mg mb m : PySem.Str → Option Value} {L sc Tt Ta Tb Fv : Addr} {items sa sb it0 it1 fa fi : Array Value} {xs0 xs1 fs : List Thing} {ls : List Env}
theorem make_lam {Q : Value → Shared → Prop} (S : Sys mg mb h) (TL : TabL h) (hz : nB ≤ h.objs.size)
    (hq : ∀ c' h' F pl tk', KeepS (· = 36) h h' → nB ≤ c' → CodeOk h' c' lamQ → h.get? F = none → h'.get? F = some (lamObj c' pl) → TabOk h' 21 17 decPos decQ → (∃ ps, h'.get? 36 = some { cls := .none, data := .fields ps }) → Q (.ref F) ⟨h', g, d, tk', os⟩) :
    wpAny (model P w) A (eval echoLam (lawEnv L)) Q E ⟨h, g, d, tk, os⟩ := by
  rw [echoLam_eq]
  refine kla_eval (by rfl) ?_
  show wpAny _ _ (makeFunction (PySem.Str.ofString "<lambda>") lamQ lamParams (.expr lamBody) lamScope (lawEnv L) [] [] [] lamPos lamPos.line) _ _ _
  have hc : closureFor lamScope (lawEnv L) = pure [] := closureFor_none lam_nofree
  obtain ⟨ps, hi, ht, z⟩ := TL
  rw [makeFunction_eq]
  simp only [List.zip_nil_right, List.filterMap_nil, List.isEmpty_nil, if_true, pure_bind]
  unfold makeTail
  rw [hc]
  refine wpAny_bind (wpAny_pure ?_)
  simp only [List.isEmpty_nil, if_true]
  refine wpAny_bind (wpAny_pure ?_)
  refine wpAny_bind (wpAny_functionCodeX (c := 38) (P := 36) rfl hi ht z fun c' h' tk' hx hge hlt hok' hrec htb' htb => ?_)
  obtain ⟨bm, o, hbm, hne0, _, hneP, hbo, hcls, hdict, hdata⟩ := S.builtinsAt (P := 36) (by decide)
  have hg' : h'.Ns mainGlobals mg := S.B.glob.extBut hx (by decide)
  refine wpAny_bind (wpAny_builtinsFor hg' hbm hne0 (hx _ _ hneP hbo) hcls hdict hdata ?_)
  refine wpAny_bind (wpAny_nsGet hg' ?_)
  refine wpAny_bind (wpAny_pure (wpAny_newObj_type ?_ (by size_fits)))
  have k : KeepS (· = 36) h h' := KeepS.of_extBut hx rfl
  have hco : CodeOk h' c' lamQ := by
    obtain ⟨P', _, _, ⟨⟨oc, vc, hoc, hcc, hdc, h11⟩, _⟩⟩ := htb
    obtain ⟨c₂, o₂, vs, t, e, a, b, dd⟩ := hrec
    cases e
    rw [a] at hoc
    cases hoc
    exact ⟨_, _, _, a, hcc, b, dd⟩
  have hF : h.get? h'.objs.size = none := by
    cases hz' : h.get? h'.objs.size with
    | none => rfl
    | some o' =>
      by_cases q : h'.objs.size = 36
      · have : h.objs.size ≤ h'.objs.size := Nat.le_of_lt (Nat.lt_of_le_of_lt hge hlt)
        rw [q] at this
        exact absurd (Nat.le_trans hz this) (by decide)
      · exact absurd (Heap.lt_size (hx _ _ q hz')) (Nat.lt_irrefl _)
  have T17 : TabOk h' 21 17 decPos decQ := by
    obtain ⟨ps', i', t', z'⟩ := S.tab
    refine ⟨ps', IsCode.keepS i' k (by decide) (by decide), TableAt.keepS t' k (by decide) (by decide), ?_⟩
    rcases z' with z' | ⟨c1, z', zb, zc⟩
    · exact .inl z'
    · exact .inr ⟨c1, z', zb, zc.keep k fun q => absurd (q ▸ zb) (by decide)⟩
  refine hq c' _ h'.objs.size _ _ (k.push _) (Nat.le_trans hz hge) (let ⟨o, vs, t, a, r⟩ := hco; ⟨o, vs, t, Heap.get?_push_of_some _ a, r⟩) hF (Heap.get?_push_size _ rfl) (T17.grow (Grow.push _ _)) ⟨_, Heap.get?_push_of_some _ htb'.2⟩
end
end Mine
end
section
open PySem PySem.W PyProof.Rows PySem.Calls PySem.SeqAt
set_option maxRecDepth 100000
namespace Mine
section
variable {w : World} {A : Around} {E : Value → Shared → Prop} {h h' hb : Heap} {g : Array GenState} {d : Drawn} {tk : Nat} {os : OsState} {mg mb m : PySem.Str → Option Value} {L sc Tt Ta Tb Fv Wl W0 W1 la lb : Addr} {items sa sb it0 it1 fa fi : Array Value} {xs0 xs1 fs : List Thing} {ls : List Env}
theorem b_end {rest : List Stmt} {Q : Flow → Shared → Prop} (B : Bd mg mb hb L sc Tt Ta Tb Fv items sa sb it0 it1 xs0 xs1 fa fi fs ls h) (hn : h.Ns L m) (hscr : m sScript = some (.ref sc)) (hth : m sThings = some (.ref Tt)) (hfv : m sFive = some (.ref Fv)) (hwl : m (PySem.Str.ofString "wells") = some (.ref Wl))
    (z0 : xs0.length ≤ 100) (z1 : xs1.length ≤ 100) (hWl : ∃ n, h.get? Wl = some (lstO #[.ref W0, .ref W1] n)) (ww : W0 ≠ W1) (b0 : nB ≤ W0) (b1 : nB ≤ W1)
    (hW0 : h.get? W0 = some (itO la)) (hW1 : h.get? W1 = some (itO lb)) (hla : ∃ n, h.get? la = some (lstO it0 n)) (hlb : ∃ n, h.get? lb = some (lstO it1 n)) (Fla : Fv ≠ la) (Flb : Fv ≠ lb)
    (hq : ∀ h' u m' a pl, a.L = L → Held hb h' → St mg mb a pl sa sb it0 it1 xs0 xs1 fa fi fs 0 0 0 0 ls h' → h'.Ns a.L m' → Lo a m' → m' sScript = some (.ref sc) → h'.IsList sc items → wpAny (model P w) A (execs rest (lawEnv L)) Q E ⟨h', g, d, u, os⟩) :
    wpAny (model P w) A (execs (lawS 4 :: lawS 5 :: rest) (lawEnv L)) Q E ⟨h, g, d, tk, os⟩ := by
  refine wpAny_execs_cons (wpAny_Assign_Name (q_list ?_))
  refine spliced_more (q_int fun t0 _ => ?_)
  refine spliced_more (q_int fun t1 _ => ?_)
  refine spliced_none ⟨by show 2 ≤ 1000; decide, h, _, rfl, fun h1 Rd k1 hRd0 hRdz hRd => ?_⟩
  have hz := nB_le hn B.bL
  have hn1 := hn.keeps k1
  have B1 := B.grow k1
  refine q_store (by rfl) hn1 (by rfl) fun h2 u2 hn2 s2 => ?_
  have B2 := B1.loc hn1 s2 hn2
  show wpAny _ _ (execs _ _) _ _ _
  refine wpAny_execs_cons (wpAny_Assign_Name ?_)
  show wpAny _ _ (eval echoLam _) _ _ _
  refine make_lam B2.sys B2.tl (nB_le hn2 B.bL) fun cl h3 Fn pl u3 k3 hcl hco hFn0 hFn T3 h36' => ?_
  have hL36 : ¬ L = 36 := fun q => absurd (q ▸ B.bL) (by decide)
  have hn3 := k3.ns hL36 hn2
  have S3 : Sys mg mb h3 := B2.sys.keepT k3 (fun a _ _ h36 q => h36 q) T3
  refine q_store (by rfl) hn3 (by rfl) fun h4 u4 hn4 s4 => ?_
  show wpAny _ _ (execs rest _) _ _ _
  have K4 : KeepS (· = L) h3 h4 := KeepS.loc s4
  have S4 := S3.keep K4 (Fair.ns hn3 B.bL)
  have K14 : KeepS (fun b => b = L ∨ b = 36) h1 h4 := (((KeepS.loc s2).mono fun _ q => .inl q).trans (k3.mono fun _ q => .inr q)).trans (K4.mono fun _ q => .inl q)
  have Kh4 : KeepS (fun b => b = L ∨ b = 36) h h4 := ((KeepS.of_grow k1 : KeepS Nil h h1).mono fun _ q => q.elim).trans K14
  -- what is no frame and no table stays
  have n36 : ∀ {b : Addr}, nB ≤ b → ¬ b = 36 := fun hb q => absurd (q ▸ hb) (by decide)
  have HB3 : Held hb h3 := ⟨B2.held.1, fun b o e q17 q36 => k3.old q36 (B2.held.2.1 b o e q17 q36) (B2.held.1 b o e), h36'⟩
  have HB4 : Held hb h4 := HB3.keep K4 fun b q => .inl (q ▸ B.bL)
  obtain ⟨ps36, _, t36, _⟩ := B.tl
  have h36 := t36.2
  have keepO : ∀ {b o}, h.get? b = some o → o.cls ≠ .none → (∀ es n, o.data ≠ .dict es n) → h4.get? b = some o := fun e hc hd => by
    refine Kh4.get (fun q => ?_) e hd
    rcases q with q | q
    · obtain ⟨o', es, n, ho', hd', _⟩ := hn
      rw [q] at e
      have ho' : h.get? L = some o' := ho'
      rw [e] at ho'; cases ho'; exact hd _ _ hd'
    · rw [q, h36] at e; cases e; exact hc rfl
  have nX : ∀ {b o vs n}, (b = L ∨ b = 36) → h.get? b = some o → o.data ≠ .seq vs n := fun q e hd => by
    rcases q with q | q
    · exact ns_away hn _ _ _ _ q e hd
    · rw [q, h36] at e; cases e; cases hd
  have slots : ∀ {arr vals : Array Value} {xs : List Thing}, Slots h arr vals xs → Slots h4 arr vals xs := fun s => s.away Kh4 fun b o vs n q e => nX q e
  have fr4 : Frs h4 (lawEnv L :: ls) := B.fr.keepN' Kh4 hn4 fun env he L' hf q => by
    rcases q with q | q
    · exact q
    · exact absurd (q ▸ hf) (B.fr.not_mem h36 (by simp) env he)
  obtain ⟨nT, hT⟩ := B.tt
  obtain ⟨nA, hTa⟩ := B.ta
  obtain ⟨nb, hTb⟩ := B.tb
  obtain ⟨nF, hF⟩ := B.fv
  obtain ⟨nW, hWl⟩ := hWl
  obtain ⟨na, hla⟩ := hla
  obtain ⟨nlb, hlb⟩ := hlb
  have freshR : ∀ {b o}, h.get? b = some o → Rd ≠ b := fun e q => by rw [← q, hRd0] at e; cases e
  have hRd4 : h4.get? Rd = some (lstO [Value.int 0 t0, Value.int 0 t1].toArray 0) := by
    refine K14.get (fun q => ?_) hRd (by simp)
    rcases q with q | q
    · exact ns_away hn1 _ _ _ _ q hRd rfl
    · exact n36 (Nat.le_trans hz hRdz) q
  have hFnL : Fn ≠ L := fun q => by
    obtain ⟨o, _, _, ho, _⟩ := hn2
    rw [q] at hFn0
    have ho : h2.get? L = some o := ho
    rw [hFn0] at ho; cases ho
  have hFn4 : h4.get? Fn = some (lamObj cl pl) := K4.get hFnL hFn (by simp [lamObj])
  have hco4 : CodeOk h4 cl lamQ := hco.keep K4 fun q => by
    obtain ⟨o, vs, t, e, _, dd, _⟩ := hco
    obtain ⟨o', es, n, ho', hd', _⟩ := hn3
    rw [q] at e
    have ho' : h3.get? L = some o' := ho'
    rw [e] at ho'; cases ho'; rw [dd] at hd'; cases hd'
  refine hq h4 u4 _ ⟨L, Tt, Ta, Tb, Fv, Wl, Rd, W0, W1, la, lb, Fn, cl⟩ pl rfl HB4
    ⟨S4, ⟨nT, keepO hT (by simp) (by simp)⟩, ⟨nA, keepO hTa (by simp) (by simp)⟩, ⟨nb, keepO hTb (by simp) (by simp)⟩, ⟨nW, keepO hWl (by simp) (by simp)⟩, slots B.s0, slots B.s1, ⟨nF, keepO hF (by simp) (by simp)⟩, slots B.s5, B.five, ⟨0, t0, t1, hRd4⟩,
      ⟨⟨_, keepO hla (by simp) (by simp), rfl, _, rfl⟩, _, keepO hW0 (by simp) (by simp), rfl, .inl rfl⟩, ⟨⟨_, keepO hlb (by simp) (by simp), rfl, _, rfl⟩, _, keepO hW1 (by simp) (by simp), rfl, .inl rfl⟩, hFn4, hco4, fr4, B.bL, B.bF, Nat.le_trans hz hRdz, b0, b1, ww, B.fA, B.fB, Fla, Flb,
      freshR hTa, freshR hTb, freshR hla, freshR hlb, freshR hF, z0, z1, S4.t17⟩ hn4 ⟨hth, hfv, hwl, rfl, rfl⟩ hscr ?_
  refine IsList.keepS B.scr Kh4 fun q => ?_
  obtain ⟨o, ho, hc, n, hd⟩ := B.scr
  exact nX q ho hd
end
end Mine
end
section
open PySem PySem.W PyProof.Rows PySem.Calls PySem.SeqAt
set_option maxRecDepth 100000
namespace Mine
theorem law_nocell : ∀ x ∈ lawScope.names, x.2 ≠ .cell := by decide
def lawFd (pm : Value) : FuncData := defFd lawQ lawQ lawParams lawBody lawScope mainGlobals .none .none none pm (.ref 38) .none
section
variable {w : World} {A : Around} {E : Value → Shared → Prop} {h : Heap} {g : Array GenState} {d : Drawn} {tk : Nat} {os : OsState} {mg mb : PySem.Str → Option Value} {items : Array Value} {pm : Value}
theorem law_call {Q : Value → Shared → Prop} (S : Sys mg mb h) (TL : TabL h) (hlaw : h.get? 39 = some { cls := .type "function", data := .func (lawFd pm) }) (hcd : h.CodeRec (.ref 38) lawQ) (hsc : h.IsList 40 items) (hz : h.objs.size = 41)
    (hint : ∀ (j : Nat) (v : Value), items[j]? = some v → ∃ k t, v = .int k t) (hsz : items.size ≤ 63) (hroom : A.depth + 6 < recursionLimit) (hA : A.handled = none) (hfr : A.frames = some []) (hg : A.guards = some []) (hu : A.units + 100 < cLine)
    (hG : AllBare g) (h17 : h.get? 17 = some { cls := .none, data := .fields #[] }) (h36 : h.get? 36 = some { cls := .none, data := .fields #[] })
    (hq : ∀ h' g' u, OldK h h' → AllBare g' → Q (.bool true) ⟨h', g', d, u, os⟩) : wpAny (model P w) A (call (.ref 39) [.ref 40]) Q E ⟨h, g, d, tk, os⟩ := by
  refine wpAny_call (codeAny_call_def (fd := lawFd pm) (body := lawBody) (binds := [(sScript, .ref 40)]) (by omega) hlaw rfl S.B.lim hcd rfl (BindsTo.of_eq (by kernel_rfl)) law_nocell
    (fun x hx => by rw [List.mem_singleton.mp hx]; rfl) ?_)
  intro h1 hn1 k1
  change h1.Ns h.objs.size _ at hn1
  have hfr1 : (A.deeper (lawEnv h.objs.size)).frames = some [lawEnv h.objs.size] := Around.frames_deeper hfr
  show wpAny _ (A.deeper (lawEnv h.objs.size)) (execs lawBody (lawEnv h.objs.size)) _ _ ⟨h1, g, d, _, os⟩
  generalize hA1 : A.deeper (lawEnv h.objs.size) = A1 at hfr1
  have hA1h : A1.handled = none := by subst hA1; exact hA
  have hA1g : A1.guards = some [] := by subst hA1; exact hg
  have hA1u : A1.units + 90 < cLine := by subst hA1; show A.units + 3 + 90 < cLine; omega
  have hA1d : A1.depth + 5 < recursionLimit := by subst hA1; show A.depth + 1 + 5 < recursionLimit; omega
  have hL : nB ≤ h.objs.size := by rw [hz]; decide
  have lt : ∀ b o, h.get? b = some o → b < nB := fun b o e => by have := Heap.lt_size e; rw [hz] at this; exact this
  generalize h.objs.size = L at hn1 hfr1 hL
  have K1 : KeepS Nil h h1 := .of_grow k1
  have S1 := S.keep K1 Fair.nil
  have F1 : Frs h1 [lawEnv L] := Frs.cons (by show ScopeKind.function ≠ .module; simp) rfl hL hn1 (fun env he => nomatch he)
  rw [lawBody_eq]
  have H1 : Held h h1 := ⟨lt, fun b o e _ _ => k1 b o e, ⟨_, k1 _ _ h36⟩⟩
  refine b_start S1 H1 (TL.keep K1 Fair.nil) hn1 hL F1 (IsList.keepS hsc K1 id) (by decide) hA1h fun h2 u2 Tt Ta Tb Fv fa fi B2 hn2 => ?_
  refine b_loop B2 hn2 rfl rfl rfl hint hsz (by omega) hA1h fun h3 u3 m3 sa sb it0 it1 xs0 xs1 fa3 fi3 fs B3 hn3 hs3 ht3 hf3 hl3 hb3 => ?_
  have z0 : xs0.length ≤ 100 := by omega
  have z1 : xs1.length ≤ 100 := by omega
  refine b_wells B3 hn3 ht3 hA1h z0 z1 fun h4 u4 Wl W0 W1 la lb B4 hn4 hWl ww b0 b1 hW0 hW1 hla hlb hla0 hlb0 => ?_
  obtain ⟨nF, hF⟩ := B3.fv
  refine b_end B4 hn4 hs3 ht3 hf3 rfl z0 z1 hWl ww b0 b1 hW0 hW1 hla hlb (fun q => by rw [q, hla0] at hF; cases hF) (fun q => by rw [q, hlb0] at hF; cases hF) fun h5 u5 m5 a pl ha H5 S5 hn5 lo5 hs5 hl5 => ?_
  subst ha
  refine t_loop S5 hn5 lo5 hs5 hl5 (by omega) hA1d hA1h hfr1 hA1g hA1u (by omega) hG fun h6 g6 u6 K6 hG6 t6 => hq h6 g6 u6 ?_ hG6
  have H6 : Held h h6 := H5.keep K6 fun b q => by
    rcases q with q | q | q | q | q | q
    · exact .inl (q ▸ S5.bR)
    · exact .inl (q ▸ S5.bF)
    · exact .inl (q ▸ S5.b0)
    · exact .inl (q ▸ S5.b1)
    · exact .inl (q ▸ S5.bL)
    · exact .inr q
  obtain ⟨_, _, tb17, _⟩ := S.tab
  obtain ⟨_, _, tb36, _⟩ := TL
  obtain ⟨ps17, e17⟩ := t6
  obtain ⟨ps36, e36⟩ := H6.2.2
  refine ⟨fun b o e => ?_, fun b o e => ?_⟩
  · by_cases q17 : b = 17
    · rw [q17, h17] at e; cases e
      exact .inr (.inl ⟨q17 ▸ tb17.isCodeTable, rfl, #[], ps17, rfl, by rw [q17, e17]; simp⟩)
    · by_cases q36 : b = 36
      · rw [q36, h36] at e; cases e
        exact .inr (.inl ⟨q36 ▸ tb36.isCodeTable, rfl, #[], ps36, rfl, by rw [q36, e36]; simp⟩)
      · exact .inl (H6.2.1 b o e q17 q36)
  · by_cases q17 : b = 17
    · exact ⟨_, q17 ▸ e17⟩
    · by_cases q36 : b = 36
      · exact ⟨_, q36 ▸ e36⟩
      · exact ⟨o, H6.2.1 b o e q17 q36⟩
end
end Mine
end
section
open PySem PySem.W PyProof.Rows PySem.Calls PySem.SeqAt
set_option maxRecDepth 100000
namespace Mine
def pmAt (K : Frag) (a : Addr) : Value := match K.lookup a with | some o => (match o.data with | .func fd => fd.pyModule | _ => .none) | none => .none
def fldAt (K : Frag) (a : Addr) : Array Value := match K.lookup a with | some o => (match o.data with | .fields vs => vs | _ => #[]) | none => #[]
def seqAt (K : Frag) (a : Addr) : Array Value := match K.lookup a with | some o => (match o.data with | .seq vs _ => vs | _ => #[]) | none => #[]
def entAt (K : Frag) (a : Addr) : Array DictEntry := match K.lookup a with | some o => (match o.data with | .dict es _ => es | _ => #[]) | none => #[]
def tokOf : Value → Tok
  | .bytes _ t => t
  | .int _ t => t
  | .str _ t => t
  | _ => 0
def tkAt (K : Frag) (a : Addr) (i : Nat) : Tok := tokOf ((seqAt K a).getD i .none)
def codeFits (vs : Array Value) (Q : Addr) : Bool := match vs.getD 11 .none, vs.getD 18 .none, vs.getD 7 .none, vs.getD 9 .none, vs.getD 10 .none, (vs[11]? : Option Value) with
  | .ref p, .str _ _, .int _ _, .bool _, .int _ _, some (.ref q) => p == Q && q == Q
  | _, _, _, _, _, _ => false
def qualIs (vs : Array Value) (q : PySem.Str) : Bool := match (vs[1]? : Option Value) with
  | some (.str x _) => x == q
  | _ => false
theorem codeFits_of {vs : Array Value} {P : Addr} (h : codeFits vs P = true) : ∃ file tf flags tg inF text tt, vs.getD 11 .none = .ref P ∧ vs.getD 18 .none = .str file tf ∧ vs.getD 7 .none = .int flags tg ∧ vs.getD 9 .none = .bool inF ∧ vs.getD 10 .none = .int text tt ∧ vs[11]? = some (.ref P) := by
  unfold codeFits at h
  split at h
  · rename_i p f tf fl tg i x tt q h1 h2 h3 h4 h5 h6
    simp only [Bool.and_eq_true, beq_iff_eq] at h
    obtain ⟨e1, e2⟩ := h
    subst e1 e2
    exact ⟨f, tf, fl, tg, i, x, tt, h1, h2, h3, h4, h5, h6⟩
  · cases h
theorem qualIs_of {vs : Array Value} {q : PySem.Str} (h : qualIs vs q = true) : ∃ t, vs[1]? = some (.str q t) := by
  unfold qualIs at h
  split at h
  · rename_i x t e
    have := eq_of_beq h
    subst this
    exact ⟨t, e⟩
  · cases h
structure KOk (K : Frag) : Prop where
  k3 : ∃ o n, K.lookup 3 = some o ∧ o.data = .dict (entAt K 3) n
  k4 : K.lookup 4 = some { cls := .type "module", dict := some 0, data := .plain }
  k15 : K.lookup 15 = some { cls := .type "tuple", data := .seq #[.bytes #[] (tkAt K 15 0), .bytes #[] (tkAt K 15 1), .bytes #[] (tkAt K 15 2), .bytes #[] (tkAt K 15 3), .int 3 (tkAt K 15 4), .bytes #[10] (tkAt K 15 5)] }
  k17 : K.lookup 17 = some { cls := .none, data := .fields #[] }
  k36 : K.lookup 36 = some { cls := .none, data := .fields #[] }
  k22 : K.lookup 22 = some (dbObj (pmAt K 22))
  k27 : K.lookup 27 = some { cls := .type "function", data := .func (ocFd (pmAt K 27)) }
  k34 : K.lookup 34 = some { cls := .type "function", data := .func (otFd (pmAt K 34)) }
  k39 : K.lookup 39 = some { cls := .type "function", data := .func (lawFd (pmAt K 39)) }
  k21 : K.lookup 21 = some { cls := .type "code", data := .fields (fldAt K 21) }
  k26 : K.lookup 26 = some { cls := .type "code", data := .fields (fldAt K 26) }
  k33 : K.lookup 33 = some { cls := .type "code", data := .fields (fldAt K 33) }
  k38 : K.lookup 38 = some { cls := .type "code", data := .fields (fldAt K 38) }
  q21 : qualIs (fldAt K 21) dbQ = true
  q26 : qualIs (fldAt K 26) ocQ = true
  q33 : qualIs (fldAt K 33) otQ = true
  q38 : qualIs (fldAt K 38) lawQ = true
  c21 : codeFits (fldAt K 21) 17 = true
  c38 : codeFits (fldAt K 38) 36 = true
  g1 : nsFind (entAt K 3) (PySem.Str.ofString "diff_bytes") = some (.ref 22)
  g2 : nsFind (entAt K 3) (PySem.Str.ofString "_law_octets") = some (.ref 27)
  g3 : nsFind (entAt K 3) (PySem.Str.ofString "_law_other") = some (.ref 34)
  g4 : nsFind (entAt K 3) "__builtins__" = some (.ref 4)
  g5 : (([PySem.Str.ofString "type", PySem.Str.ofString "AttributeError", PySem.Str.ofString "TypeError", PySem.Str.ofString "list", PySem.Str.ofString "map", PySem.Str.ofString "range", PySem.Str.ofString "len", PySem.Str.ofString "next", PySem.Str.ofString "str", PySem.Str.ofString "iter", PySem.Str.ofString "bytes", PySem.Str.ofString "chr"] : List PySem.Str).all fun x => (nsFind (entAt K 3) x).isNone) = true
theorem code_rec {h : Heap} {c : Addr} {vs : Array Value} {q : PySem.Str} (e : h.get? c = some { cls := .type "code", data := .fields vs }) (hq : qualIs vs q = true) : h.CodeRec (.ref c) q := by
  obtain ⟨t, ht⟩ := qualIs_of hq
  exact ⟨c, _, vs, t, rfl, e, rfl, ht⟩
theorem code_tab {h : Heap} {c P : Addr} {vs : Array Value} (e : h.get? c = some { cls := .type "code", data := .fields vs }) (hf : codeFits vs P = true) (hP : h.get? P = some { cls := .none, data := .fields #[] }) (hne : c ≠ P) : h.IsCode c P #[] ∧ h.TableAt c P #[] := by
  obtain ⟨file, tf, flags, tg, inF, text, tt, a1, a2, a3, a4, a5, a6⟩ := codeFits_of hf
  exact ⟨⟨_, vs, file, tf, flags, tg, inF, text, tt, _, e, rfl, a1, a2, a3, a4, a5, hP, rfl, trivial, hne⟩, ⟨⟨_, vs, e, rfl, rfl, a6⟩, hP⟩⟩
section
variable {w : World} {E : Value → Shared → Prop} {s₁ : Shared} {mg mb : PySem.Str → Option Value} {K : Frag} {vals : List Value} {ns : List Int}
theorem final {Q : Value → Shared → Prop} (KX : K.In s₁.heap) (ok : KOk K) (Tg : s₁.heap.Ns mainGlobals mg) (Tb : s₁.heap.Ns builtinsNs mb) (Tl : s₁.heap.NoLimit) (Tbu : ∀ x : PySem.Str, x ≠ "__name__" → mb x = bootBuiltins x)
    (hg : s₁.gens = #[]) (hsz : s₁.heap.objs.size = 41) (hl : s₁.heap.IsList 40 vals.toArray) (hi : IntsAre vals ns) (hlen : ns.length ≤ 63)
    (hq : ∀ s', OldK s₁.heap s'.heap → AllBare s'.gens → s'.os = s₁.os → Q (.bool true) s') : wpAny (model P w) callerA (call (.ref 39) [.ref 40]) Q E s₁ := by
  obtain ⟨h, g, d, tk, os⟩ := s₁
  obtain ⟨o3, n3, e3, d3⟩ := ok.k3
  have hmg : ∀ x, mg x = nsFind (entAt K 3) x := fun x => by
    obtain ⟨o, es, ep, ho, hd, _, hf⟩ := Tg
    have h3 := KX 3 o3 e3
    have ho : h.get? 3 = some o := ho
    have h3 : h.get? 3 = some o3 := h3
    rw [ho] at h3
    cases h3
    rw [hd] at d3
    cases d3
    exact (hf x).symm
  have x17 := KX 17 _ ok.k17
  have x36 := KX 36 _ ok.k36
  obtain ⟨ic, ta⟩ := code_tab (KX 21 _ ok.k21) ok.c21 x17 (by decide)
  obtain ⟨icL, taL⟩ := code_tab (KX 38 _ ok.k38) ok.c38 x36 (by decide)
  have N : Names mg mb := ⟨(hmg _).trans ok.g1, (hmg _).trans ok.g2, (hmg _).trans ok.g3, fun x hx => by
    rw [hmg x]
    have := List.all_eq_true.mp ok.g5 x hx
    simpa using this, Tbu⟩
  have S : Sys mg mb h := ⟨N, ⟨Tl, Tg, Tb⟩, (hmg _).trans ok.g4, KX 4 _ ok.k4, ⟨_, KX 22 _ ok.k22⟩, code_rec (KX 21 _ ok.k21) ok.q21, ⟨_, _, _, _, _, _, KX 15 _ ok.k15⟩, ⟨_, KX 27 _ ok.k27⟩, code_rec (KX 26 _ ok.k26) ok.q26, ⟨_, KX 34 _ ok.k34⟩, code_rec (KX 33 _ ok.k33) ok.q33, ⟨#[], ic, ta, .inl rfl⟩⟩
  refine law_call (pm := pmAt K 39) S ⟨#[], icL, taL, rfl⟩ (KX 39 _ ok.k39) (code_rec (KX 38 _ ok.k38) ok.q38) hl hsz (fun j v e => ?_) ?_ (by decide +kernel) rfl rfl rfl (by decide +kernel) (.of_eq hg) x17 x36 fun h' g' u o' b' => hq _ o' b' rfl
  · have : ∀ {vs : List Value} {ns : List Int}, IntsAre vs ns → ∀ (j : Nat), vs[j]? = some v → ∃ k t, v = .int k t := fun hh => by
      induction hh with
      | nil => intro j e; simp at e
      | cons n t _ ih =>
        intro j e
        cases j with
        | zero => simp at e; exact ⟨n, t, e.symm⟩
        | succ j => exact ih j (by simpa using e)
    exact this hi j (by simpa using e)
  · have := hi.length
    simp; omega
end
end Mine
end
open PySem PySem.W PySem.W.X PySem.W.ZRun PyProof.Rows
set_option maxRecDepth 100000 in
set_option maxHeartbeats 0 in
theorem PySem.Challenge.cw_dm0049_03_holds : PySem.Challenge.rw_dm0049_03.Holds := by
  w_on; o_law; z_head; (case hw => w_witness2)
  k_fill
  intro w s₀ s₁ mg mb G y fa o pm cd doc dV kV ho hd hcd hD hmg hg args vals as L hpre hlay hrd hwl hlo
  z_open y L KX ZH ZN ZT
  refine Ground.open G ?_
  intro T B D TE TW
  wrow_args hpre hlay hrd hwl hlo
  obtain ⟨hat, hsz⟩ := script_at L
  have htk := script_toks L ZT
  rw [ZN] at hat hsz
  subst hat
  x_fa T KX hmg
  all_lens
  have hII := ‹IntsAre _ _›
  have hLL := ‹Heap.IsList _ 40 _›
  refine Mine.final KX ⟨⟨_, _, rfl, rfl⟩, ?_, ?_, ?_, ?_, ?_, ?_, ?_, ?_, ?_, ?_, ?_, ?_, ?_, ?_, ?_, ?_, ?_, ?_, ?_, ?_, ?_, ?_, ?_⟩ T.g T.b T.nolimit T.builtins hg hsz hLL hII (by omega) fun s' h1 h2 h3 => ?_
  all_goals first | kernel_rfl | skip
  exact ⟨.inl ⟨_, _, [], rfl, fun _ => rfl, ReadsW.bool true, by first | rfl | wrow_post, fun _ => ⟨List.nodup_nil, fun _ hm => (nomatch hm)⟩⟩, h1, h3, h2⟩
