section
-- ===== PART A: goes FIRST, ahead of the names: the tables' words, and 'selects' of the private methods out of them =====
/-- a private method of a class that the tables say can be made, by its rows of tables_1 -/
def lw_okq (q : MethodName × Nat) : Prop := (q.1.cls ≠ "java/lang/invoke/MethodHandle" ∧ q.1.cls ≠ "java/lang/invoke/VarHandle") ∧ Cond.instantiable q.1.cls q.2 ∈ tables_1 ∧ Cond.privateMethod q.1 ∈ tables_1 ∧ Cond.instanceMethod q.1 ∈ tables_1
set_option maxRecDepth 100000
theorem lw_t1 {w : Cond} (h : w ∈ tables_1_1) : w ∈ tables_1 := List.mem_append_left _ h
theorem lw_t2 {w : Cond} (h : w ∈ tables_1_2) : w ∈ tables_1 := List.mem_append_right _ h
theorem lw_p0 : lw_okq (⟨"java/lang/Throwable", "fillInStackTrace", "(I)Ljava/lang/Throwable;"⟩, 6) := ⟨⟨by decide +kernel, by decide +kernel⟩, lw_t1 (List.mem_of_getElem? (i := 97) rfl), lw_t1 (List.mem_of_getElem? (i := 95) rfl), lw_t1 (List.mem_of_getElem? (i := 96) rfl)⟩
theorem lw_p1 : lw_okq (⟨"BCrypt", "deriveRawKey", "(I[B[B)[B"⟩, 2) := ⟨⟨by decide +kernel, by decide +kernel⟩, lw_t1 (List.mem_of_getElem? (i := 135) rfl), lw_t1 (List.mem_of_getElem? (i := 149) rfl), lw_t1 (List.mem_of_getElem? (i := 150) rfl)⟩
theorem lw_p2 : lw_okq (⟨"BCrypt", "initState", "()V"⟩, 2) := ⟨⟨by decide +kernel, by decide +kernel⟩, lw_t1 (List.mem_of_getElem? (i := 135) rfl), lw_t1 (List.mem_of_getElem? (i := 174) rfl), lw_t1 (List.mem_of_getElem? (i := 175) rfl)⟩
theorem lw_p3 : lw_okq (⟨"BCrypt", "cyclicXorKey", "([B)V"⟩, 2) := ⟨⟨by decide +kernel, by decide +kernel⟩, lw_t1 (List.mem_of_getElem? (i := 135) rfl), lw_t1 (List.mem_of_getElem? (i := 195) rfl), lw_t1 (List.mem_of_getElem? (i := 196) rfl)⟩
theorem lw_p4 : lw_okq (⟨"BCrypt", "processTableWithSalt", "([I[III)V"⟩, 2) := ⟨⟨by decide +kernel, by decide +kernel⟩, lw_t1 (List.mem_of_getElem? (i := 135) rfl), lw_t1 (List.mem_of_getElem? (i := 199) rfl), lw_t1 (List.mem_of_getElem? (i := 200) rfl)⟩
theorem lw_p5 : lw_okq (⟨"BCrypt", "F", "(I)I"⟩, 2) := ⟨⟨by decide +kernel, by decide +kernel⟩, lw_t1 (List.mem_of_getElem? (i := 135) rfl), lw_t1 (List.mem_of_getElem? (i := 203) rfl), lw_t1 (List.mem_of_getElem? (i := 204) rfl)⟩
theorem lw_p6 : lw_okq (⟨"BCrypt", "processTable", "(II[I)V"⟩, 2) := ⟨⟨by decide +kernel, by decide +kernel⟩, lw_t1 (List.mem_of_getElem? (i := 135) rfl), lw_t1 (List.mem_of_getElem? (i := 213) rfl), lw_t1 (List.mem_of_getElem? (i := 214) rfl)⟩
theorem lw_p7 : lw_okq (⟨"BCrypt", "encryptMagicString", "()[B"⟩, 2) := ⟨⟨by decide +kernel, by decide +kernel⟩, lw_t1 (List.mem_of_getElem? (i := 135) rfl), lw_t1 (List.mem_of_getElem? (i := 217) rfl), lw_t1 (List.mem_of_getElem? (i := 218) rfl)⟩
theorem lw_p8 : lw_okq (⟨"CryptDeskModel", "spread", "([II[I)V"⟩, 7) := ⟨⟨by decide +kernel, by decide +kernel⟩, lw_t1 (List.mem_of_getElem? (i := 233) rfl), lw_t2 (List.mem_of_getElem? (i := 43) rfl), lw_t2 (List.mem_of_getElem? (i := 44) rfl)⟩
theorem lw_p9 : lw_okq (⟨"CryptDeskModel", "lock", "()V"⟩, 7) := ⟨⟨by decide +kernel, by decide +kernel⟩, lw_t1 (List.mem_of_getElem? (i := 233) rfl), lw_t2 (List.mem_of_getElem? (i := 50) rfl), lw_t2 (List.mem_of_getElem? (i := 51) rfl)⟩
def lw_privs_1 : List (MethodName × Nat) := [(⟨"java/lang/Throwable", "fillInStackTrace", "(I)Ljava/lang/Throwable;"⟩, 6), (⟨"BCrypt", "deriveRawKey", "(I[B[B)[B"⟩, 2), (⟨"BCrypt", "initState", "()V"⟩, 2), (⟨"BCrypt", "cyclicXorKey", "([B)V"⟩, 2), (⟨"BCrypt", "processTableWithSalt", "([I[III)V"⟩, 2), (⟨"BCrypt", "F", "(I)I"⟩, 2), (⟨"BCrypt", "processTable", "(II[I)V"⟩, 2), (⟨"BCrypt", "encryptMagicString", "()[B"⟩, 2), (⟨"CryptDeskModel", "spread", "([II[I)V"⟩, 7), (⟨"CryptDeskModel", "lock", "()V"⟩, 7)]
theorem lw_r1 : ∀ q ∈ lw_privs_1, lw_okq q := List.forall_mem_cons.mpr ⟨lw_p0, List.forall_mem_cons.mpr ⟨lw_p1, List.forall_mem_cons.mpr ⟨lw_p2, List.forall_mem_cons.mpr ⟨lw_p3, List.forall_mem_cons.mpr ⟨lw_p4, List.forall_mem_cons.mpr ⟨lw_p5, List.forall_mem_cons.mpr ⟨lw_p6, List.forall_mem_cons.mpr ⟨lw_p7, List.forall_mem_cons.mpr ⟨lw_p8, List.forall_mem_cons.mpr ⟨lw_p9, fun _ h => absurd h List.not_mem_nil⟩⟩⟩⟩⟩⟩⟩⟩⟩⟩
def lw_privs : List (MethodName × Nat) := lw_privs_1
def lw_tbl : List Cond := k2_sels lw_privs ++ tables_1
theorem lw_privs_ok : ∀ q ∈ lw_privs, lw_okq q := lw_r1
-- ===== ONE list of words for every method: the tables' words that hold all through a run =====
def lw_all : List Cond := lw_tbl.filter goodWord
/-- a word of the tables by its place: claim/WORDS.tsv -/
theorem lw_w {w : Cond} (i : Nat) (h : lw_tbl[i]? = some w) (g : goodWord w = true) : w ∈ lw_all := List.mem_filter.mpr ⟨List.mem_of_getElem? h, g⟩
theorem lw_all_tbl {w : Cond} (h : w ∈ lw_all) : w ∈ lw_tbl := (List.mem_filter.mp h).1
theorem lw_self : GoodIn lw_all lw_all := fun w h => ⟨h, good_of_word (List.mem_filter.mp h).2⟩
/-- a class's field words, by their places -/
theorem lw_in (ws : List Cond) (ps : List Nat) (hp : ws = ps.filterMap (fun i => lw_tbl[i]?)) (hg : ws.all goodWord = true) : ∀ w ∈ ws, w ∈ lw_all := by
  intro w h
  have h1 := List.all_eq_true.mp hg w h
  rw [hp] at h
  obtain ⟨i, -, hi⟩ := List.mem_filterMap.mp h
  exact lw_w i hi h1
/-- the words of a contract for the method y with code b, L locals, answer r -/
abbrev ws_ (y : MethodName) (b : ByteArray) (L : Nat) (r : Option FieldType) : List Cond := Cond.code y b L r :: lw_all
theorem lw_meth {y : MethodName} {b : ByteArray} {L : Nat} {r : Option FieldType} (h : Cond.code y b L r ∈ lw_all) : GoodIn lw_all (ws_ y b L r) := by
  intro w hw
  rcases List.mem_cons.mp hw with e | e
  · rw [e]
    exact lw_self _ h
  · exact lw_self _ e
theorem lw_app {a c : List Cond} (ha : ∀ w ∈ a, w ∈ lw_all) (hc : GoodIn lw_all c) : GoodIn lw_all (a ++ c) := by
  intro w hw
  rcases List.mem_append.mp hw with e | e
  · exact lw_self w (ha w e)
  · exact hc w e
/-- what a call through an object asks: cwV n hts (lw_V ..) -/
theorem lw_V {own : String} {idx : Nat} {C : String} {y : MethodName} {b : ByteArray} {L : Nat} {r : Option FieldType} (h1 : Cond.methodLink own idx y ∈ lw_all) (h2 : Cond.instanceMethod y ∈ lw_all) (h3 : Cond.selects C y y ∈ lw_all) (h4 : Cond.initialized C ∈ lw_all) (h5 : Cond.code y b L r ∈ lw_all) : GoodIn lw_all (wsV own idx C y (ws_ y b L r)) := by
  refine lw_app ?_ (lw_meth h5)
  intro w hw
  simp only [List.mem_cons, List.not_mem_nil, or_false] at hw
  rcases hw with e | e | e | e
  · rw [e]; exact h1
  · rw [e]; exact h2
  · rw [e]; exact h3
  · rw [e]; exact h4
/-- what a static call asks: va_cwS n hts (lw_S ..) -/
theorem lw_S {own : String} {idx : Nat} {y : MethodName} {b : ByteArray} {L : Nat} {r : Option FieldType} (h1 : Cond.methodLink own idx y ∈ lw_all) (h2 : Cond.static y ∈ lw_all) (h3 : Cond.initialized y.cls ∈ lw_all) (h4 : Cond.code y b L r ∈ lw_all) : GoodIn lw_all (va_wsS own idx y (ws_ y b L r)) := by
  refine lw_app ?_ (lw_meth h4)
  intro w hw
  simp only [List.mem_cons, List.not_mem_nil, or_false] at hw
  rcases hw with e | e | e
  · rw [e]; exact h1
  · rw [e]; exact h2
  · rw [e]; exact h3
/-- the words of a contract for a method WITH HANDLERS (hh: its table) -/
abbrev wsW_ (y : MethodName) (b : ByteArray) (L : Nat) (r : Option FieldType) (hh : List (Nat × Nat × Nat × Nat)) : List Cond := Cond.codeWith y b L r hh :: lw_all
theorem lw_methW {y : MethodName} {b : ByteArray} {L : Nat} {r : Option FieldType} {hh : List (Nat × Nat × Nat × Nat)} (h : Cond.codeWith y b L r hh ∈ lw_all) : GoodIn lw_all (wsW_ y b L r hh) := by
  intro w hw
  rcases List.mem_cons.mp hw with e | e
  · rw [e]
    exact lw_self _ h
  · exact lw_self _ e
/-- any list of words by their places (lw_in), good -/
theorem lw_good {ws : List Cond} (h : ∀ w ∈ ws, w ∈ lw_all) : GoodIn lw_all ws := fun w hw => lw_self w (h w hw)
/-- what a call of a method with handlers asks: vx_cwVW n hts (lw_VW ..), vx_cwSW n hts (lw_SW ..) -/
theorem lw_VW {own : String} {idx : Nat} {C : String} {y : MethodName} {b : ByteArray} {L : Nat} {r : Option FieldType} {hh : List (Nat × Nat × Nat × Nat)} (h1 : Cond.methodLink own idx y ∈ lw_all) (h2 : Cond.instanceMethod y ∈ lw_all) (h3 : Cond.selects C y y ∈ lw_all) (h4 : Cond.initialized C ∈ lw_all) (h5 : Cond.codeWith y b L r hh ∈ lw_all) : GoodIn lw_all (wsV own idx C y (wsW_ y b L r hh)) := by
  refine lw_app ?_ (lw_methW h5)
  intro w hw
  simp only [List.mem_cons, List.not_mem_nil, or_false] at hw
  rcases hw with e | e | e | e
  · rw [e]; exact h1
  · rw [e]; exact h2
  · rw [e]; exact h3
  · rw [e]; exact h4
theorem lw_SW {own : String} {idx : Nat} {y : MethodName} {b : ByteArray} {L : Nat} {r : Option FieldType} {hh : List (Nat × Nat × Nat × Nat)} (h1 : Cond.methodLink own idx y ∈ lw_all) (h2 : Cond.static y ∈ lw_all) (h3 : Cond.initialized y.cls ∈ lw_all) (h4 : Cond.codeWith y b L r hh ∈ lw_all) : GoodIn lw_all (va_wsS own idx y (wsW_ y b L r hh)) := by
  refine lw_app ?_ (lw_methW h4)
  intro w hw
  simp only [List.mem_cons, List.not_mem_nil, or_false] at hw
  rcases hw with e | e | e
  · rw [e]; exact h1
  · rw [e]; exact h2
  · rw [e]; exact h3
/-- a word by its place in its run of the tables -/
theorem lw_at {r : List Cond} (hr : ∀ w ∈ r, w ∈ lw_tbl) {w : Cond} (i : Nat) (h : r[i]? = some w) : w ∈ lw_tbl := hr w (List.mem_of_getElem? h)
theorem lw_g {w : Cond} (h : w ∈ lw_tbl) (g : goodWord w = true) : w ∈ lw_all := List.mem_filter.mpr ⟨h, g⟩
theorem lw_ms : ∀ w ∈ k2_sels lw_privs, w ∈ lw_tbl := fun w h => show w ∈ k2_sels lw_privs ++ tables_1 from List.mem_append_left _ h
theorem lw_m1 : ∀ w ∈ tables_1_1, w ∈ lw_tbl := fun w h => show w ∈ k2_sels lw_privs ++ tables_1 from List.mem_append_right (k2_sels lw_privs) (show w ∈ tables_1 from List.mem_append_left _ h)
theorem lw_m2 : ∀ w ∈ tables_1_2, w ∈ lw_tbl := fun w h => show w ∈ k2_sels lw_privs ++ tables_1 from List.mem_append_right (k2_sels lw_privs) (show w ∈ tables_1 from List.mem_append_right _ h)
theorem qs0 : (Cond.selects "java/lang/Throwable" ⟨"java/lang/Throwable", "fillInStackTrace", "(I)Ljava/lang/Throwable;"⟩ ⟨"java/lang/Throwable", "fillInStackTrace", "(I)Ljava/lang/Throwable;"⟩) ∈ lw_all := lw_g (lw_at lw_ms 0 rfl) rfl
theorem qs1 : (Cond.selects "BCrypt" ⟨"BCrypt", "deriveRawKey", "(I[B[B)[B"⟩ ⟨"BCrypt", "deriveRawKey", "(I[B[B)[B"⟩) ∈ lw_all := lw_g (lw_at lw_ms 1 rfl) rfl
theorem qs2 : (Cond.selects "BCrypt" ⟨"BCrypt", "initState", "()V"⟩ ⟨"BCrypt", "initState", "()V"⟩) ∈ lw_all := lw_g (lw_at lw_ms 2 rfl) rfl
theorem qs3 : (Cond.selects "BCrypt" ⟨"BCrypt", "cyclicXorKey", "([B)V"⟩ ⟨"BCrypt", "cyclicXorKey", "([B)V"⟩) ∈ lw_all := lw_g (lw_at lw_ms 3 rfl) rfl
theorem qs4 : (Cond.selects "BCrypt" ⟨"BCrypt", "processTableWithSalt", "([I[III)V"⟩ ⟨"BCrypt", "processTableWithSalt", "([I[III)V"⟩) ∈ lw_all := lw_g (lw_at lw_ms 4 rfl) rfl
theorem qs5 : (Cond.selects "BCrypt" ⟨"BCrypt", "F", "(I)I"⟩ ⟨"BCrypt", "F", "(I)I"⟩) ∈ lw_all := lw_g (lw_at lw_ms 5 rfl) rfl
theorem qs6 : (Cond.selects "BCrypt" ⟨"BCrypt", "processTable", "(II[I)V"⟩ ⟨"BCrypt", "processTable", "(II[I)V"⟩) ∈ lw_all := lw_g (lw_at lw_ms 6 rfl) rfl
theorem qs7 : (Cond.selects "BCrypt" ⟨"BCrypt", "encryptMagicString", "()[B"⟩ ⟨"BCrypt", "encryptMagicString", "()[B"⟩) ∈ lw_all := lw_g (lw_at lw_ms 7 rfl) rfl
theorem qs8 : (Cond.selects "CryptDeskModel" ⟨"CryptDeskModel", "spread", "([II[I)V"⟩ ⟨"CryptDeskModel", "spread", "([II[I)V"⟩) ∈ lw_all := lw_g (lw_at lw_ms 8 rfl) rfl
theorem qs9 : (Cond.selects "CryptDeskModel" ⟨"CryptDeskModel", "lock", "()V"⟩ ⟨"CryptDeskModel", "lock", "()V"⟩) ∈ lw_all := lw_g (lw_at lw_ms 9 rfl) rfl
-- ===== end of PART A; then your names; then what follows =====
end
section
/-! DECODE ROWS BY BYTES: one lemma an opcode; a method's code is cut into short pieces once, and a row reads its own piece alone. -/
set_option maxRecDepth 100000
/-- the code has just these bytes from pc on -/
def DkAt (code : ByteArray) (pc : Nat) (bs : List UInt8) : Prop := ∀ (j : Nat) (b : UInt8), bs[j]? = some b → code.data.toList[pc + j]? = some b
/-- the piece W has the bytes bs from its place j on -/
def dkIn (W : List UInt8) (j : Nat) (bs : List UInt8) : Bool := decide ((W.drop j).take bs.length = bs)
theorem dk_seg {l W T : List UInt8} {o o2 : Nat} (h : l.drop o = W ++ T) (n : Nat) (hn : W.length = n) (ho : o + n = o2) : l.drop o2 = T := by
  subst ho
  rw [← List.drop_drop, h, List.drop_left' hn]
theorem dk_at {code : ByteArray} {W T bs : List UInt8} {o pc : Nat} (h : code.data.toList.drop o = W ++ T) (j : Nat) (hp : o + j = pc) (hw : dkIn W j bs = true) : DkAt code pc bs := by
  subst hp
  intro i b e
  have h1 := of_decide_eq_true hw
  have h2 : i < bs.length := (List.getElem?_eq_some_iff.mp e).1
  have h3 : W[j + i]? = some b := by
    rw [← h1, List.getElem?_take, if_pos h2, List.getElem?_drop] at e
    exact e
  have h4 : j + i < W.length := (List.getElem?_eq_some_iff.mp h3).1
  have h5 : (code.data.toList.drop o)[j + i]? = some b := by
    rw [h, List.getElem?_append_left h4]
    exact h3
  rw [List.getElem?_drop, ← Nat.add_assoc] at h5
  exact h5
theorem dk_u1 {A : ByteArray} {p : Nat} {b : UInt8} (h : A.data.toList[p]? = some b) : (Reader.u1 : Reader DecodeError Nat) A p = .ok (b.toNat, p + 1) := by
  obtain ⟨h1, h2⟩ := List.getElem?_eq_some_iff.mp h
  have h3 : p < A.size := by simpa using h1
  have h4 : A[p]'h3 = b := h2
  have e : (Reader.u1 : Reader DecodeError Nat) A p = (if h : p < A.size then .ok (A[p].toNat, p + 1) else .error (HasTruncated.truncated p)) := by
    show (do if h : p < A.size then do set (p + 1); Pure.pure A[p].toNat else MonadExcept.throw (HasTruncated.truncated p) : Reader DecodeError Nat) A p = _
    by_cases hi : p < A.size
    · rw [dif_pos hi, dif_pos hi]; rfl
    · rw [dif_neg hi, dif_neg hi]; rfl
  rw [e, dif_pos h3, h4]
theorem dk_bind {α β : Type} {r : Reader DecodeError α} {f : α → Reader DecodeError β} {A : ByteArray} {p s : Nat} {a : α} (h : r A p = .ok (a, s)) : (r >>= f) A p = f a A s := by
  show (do let (a, s) ← r A p; f a A s : Except DecodeError (β × Nat)) = _
  rw [h]
  rfl
theorem dk_map {α β : Type} {r : Reader DecodeError α} {g : α → β} {A : ByteArray} {p s : Nat} {a : α} (h : r A p = .ok (a, s)) : (g <$> r) A p = .ok (g a, s) := by
  show (do let (a, s) ← r A p; .ok (g a, s) : Except DecodeError (β × Nat)) = _
  rw [h]
  rfl
theorem dk_u2 {A : ByteArray} {p : Nat} {a b : UInt8} (h : A.data.toList[p]? = some a) (h2 : A.data.toList[p + 1]? = some b) : (Reader.u2 : Reader DecodeError Nat) A p = .ok (a.toNat * 256 + b.toNat, p + 2) := by
  show (Reader.u1 >>= fun hi => Reader.u1 >>= fun lo => Pure.pure (hi * 256 + lo) : Reader DecodeError Nat) A p = _
  rw [dk_bind (dk_u1 h), dk_bind (dk_u1 h2)]
  rfl
theorem dk_of {code : ByteArray} {pc n : Nat} {i : Instr} (h : Decoder.instr pc code pc = .ok (i, pc + n)) : decode code pc = .ok (i, n) := by
  have e : decode code pc = (match Decoder.instr pc code pc with | .error x => .error x | .ok (j, s) => .ok (j, s - pc)) := by
    show (do let (j, s) ← Decoder.instr pc code pc; Pure.pure (j, s - pc) : Except DecodeError (Instr × Nat)) = _
    cases Decoder.instr pc code pc <;> rfl
  rw [e, h]
  show Except.ok (i, pc + n - pc) = _
  rw [Nat.add_sub_cancel_left]
theorem dk_3 {code : ByteArray} {pc : Nat} (h : DkAt code pc [3]) : decode code pc = .ok (.iconst 0, 1) := dk_of ((dk_bind (dk_u1 (h 0 _ rfl))).trans rfl)
theorem dk_4 {code : ByteArray} {pc : Nat} (h : DkAt code pc [4]) : decode code pc = .ok (.iconst 1, 1) := dk_of ((dk_bind (dk_u1 (h 0 _ rfl))).trans rfl)
theorem dk_5 {code : ByteArray} {pc : Nat} (h : DkAt code pc [5]) : decode code pc = .ok (.iconst 2, 1) := dk_of ((dk_bind (dk_u1 (h 0 _ rfl))).trans rfl)
theorem dk_6 {code : ByteArray} {pc : Nat} (h : DkAt code pc [6]) : decode code pc = .ok (.iconst 3, 1) := dk_of ((dk_bind (dk_u1 (h 0 _ rfl))).trans rfl)
theorem dk_7 {code : ByteArray} {pc : Nat} (h : DkAt code pc [7]) : decode code pc = .ok (.iconst 4, 1) := dk_of ((dk_bind (dk_u1 (h 0 _ rfl))).trans rfl)
theorem dk_8 {code : ByteArray} {pc : Nat} (h : DkAt code pc [8]) : decode code pc = .ok (.iconst 5, 1) := dk_of ((dk_bind (dk_u1 (h 0 _ rfl))).trans rfl)
theorem dk_16 {code : ByteArray} {pc : Nat} (a : UInt8) (h : DkAt code pc [16, a]) : decode code pc = .ok (.bipush (Reader.signed 8 a.toNat), 2) := dk_of ((dk_bind (dk_u1 (h 0 _ rfl))).trans ((dk_bind (dk_map (dk_u1 (h 1 _ rfl)))).trans rfl))
theorem dk_17 {code : ByteArray} {pc : Nat} (a b : UInt8) (h : DkAt code pc [17, a, b]) : decode code pc = .ok (.sipush (Reader.signed 16 (a.toNat * 256 + b.toNat)), 3) := dk_of ((dk_bind (dk_u1 (h 0 _ rfl))).trans ((dk_bind (dk_map (dk_u2 (h 1 _ rfl) (h 2 _ rfl)))).trans rfl))
theorem dk_18 {code : ByteArray} {pc : Nat} (a : UInt8) (h : DkAt code pc [18, a]) : decode code pc = .ok (.ldc a.toNat, 2) := dk_of ((dk_bind (dk_u1 (h 0 _ rfl))).trans ((dk_bind (dk_u1 (h 1 _ rfl))).trans rfl))
theorem dk_21 {code : ByteArray} {pc : Nat} (a : UInt8) (h : DkAt code pc [21, a]) : decode code pc = .ok (.iload a.toNat, 2) := dk_of ((dk_bind (dk_u1 (h 0 _ rfl))).trans ((dk_bind (dk_u1 (h 1 _ rfl))).trans rfl))
theorem dk_25 {code : ByteArray} {pc : Nat} (a : UInt8) (h : DkAt code pc [25, a]) : decode code pc = .ok (.aload a.toNat, 2) := dk_of ((dk_bind (dk_u1 (h 0 _ rfl))).trans ((dk_bind (dk_u1 (h 1 _ rfl))).trans rfl))
theorem dk_26 {code : ByteArray} {pc : Nat} (h : DkAt code pc [26]) : decode code pc = .ok (.iload_n 0, 1) := dk_of ((dk_bind (dk_u1 (h 0 _ rfl))).trans rfl)
theorem dk_27 {code : ByteArray} {pc : Nat} (h : DkAt code pc [27]) : decode code pc = .ok (.iload_n 1, 1) := dk_of ((dk_bind (dk_u1 (h 0 _ rfl))).trans rfl)
theorem dk_28 {code : ByteArray} {pc : Nat} (h : DkAt code pc [28]) : decode code pc = .ok (.iload_n 2, 1) := dk_of ((dk_bind (dk_u1 (h 0 _ rfl))).trans rfl)
theorem dk_29 {code : ByteArray} {pc : Nat} (h : DkAt code pc [29]) : decode code pc = .ok (.iload_n 3, 1) := dk_of ((dk_bind (dk_u1 (h 0 _ rfl))).trans rfl)
theorem dk_42 {code : ByteArray} {pc : Nat} (h : DkAt code pc [42]) : decode code pc = .ok (.aload_n 0, 1) := dk_of ((dk_bind (dk_u1 (h 0 _ rfl))).trans rfl)
theorem dk_43 {code : ByteArray} {pc : Nat} (h : DkAt code pc [43]) : decode code pc = .ok (.aload_n 1, 1) := dk_of ((dk_bind (dk_u1 (h 0 _ rfl))).trans rfl)
theorem dk_44 {code : ByteArray} {pc : Nat} (h : DkAt code pc [44]) : decode code pc = .ok (.aload_n 2, 1) := dk_of ((dk_bind (dk_u1 (h 0 _ rfl))).trans rfl)
theorem dk_45 {code : ByteArray} {pc : Nat} (h : DkAt code pc [45]) : decode code pc = .ok (.aload_n 3, 1) := dk_of ((dk_bind (dk_u1 (h 0 _ rfl))).trans rfl)
theorem dk_46 {code : ByteArray} {pc : Nat} (h : DkAt code pc [46]) : decode code pc = .ok (.iaload, 1) := dk_of ((dk_bind (dk_u1 (h 0 _ rfl))).trans rfl)
theorem dk_51 {code : ByteArray} {pc : Nat} (h : DkAt code pc [51]) : decode code pc = .ok (.baload, 1) := dk_of ((dk_bind (dk_u1 (h 0 _ rfl))).trans rfl)
theorem dk_54 {code : ByteArray} {pc : Nat} (a : UInt8) (h : DkAt code pc [54, a]) : decode code pc = .ok (.istore a.toNat, 2) := dk_of ((dk_bind (dk_u1 (h 0 _ rfl))).trans ((dk_bind (dk_u1 (h 1 _ rfl))).trans rfl))
theorem dk_58 {code : ByteArray} {pc : Nat} (a : UInt8) (h : DkAt code pc [58, a]) : decode code pc = .ok (.astore a.toNat, 2) := dk_of ((dk_bind (dk_u1 (h 0 _ rfl))).trans ((dk_bind (dk_u1 (h 1 _ rfl))).trans rfl))
theorem dk_60 {code : ByteArray} {pc : Nat} (h : DkAt code pc [60]) : decode code pc = .ok (.istore_n 1, 1) := dk_of ((dk_bind (dk_u1 (h 0 _ rfl))).trans rfl)
theorem dk_61 {code : ByteArray} {pc : Nat} (h : DkAt code pc [61]) : decode code pc = .ok (.istore_n 2, 1) := dk_of ((dk_bind (dk_u1 (h 0 _ rfl))).trans rfl)
theorem dk_62 {code : ByteArray} {pc : Nat} (h : DkAt code pc [62]) : decode code pc = .ok (.istore_n 3, 1) := dk_of ((dk_bind (dk_u1 (h 0 _ rfl))).trans rfl)
theorem dk_76 {code : ByteArray} {pc : Nat} (h : DkAt code pc [76]) : decode code pc = .ok (.astore_n 1, 1) := dk_of ((dk_bind (dk_u1 (h 0 _ rfl))).trans rfl)
theorem dk_77 {code : ByteArray} {pc : Nat} (h : DkAt code pc [77]) : decode code pc = .ok (.astore_n 2, 1) := dk_of ((dk_bind (dk_u1 (h 0 _ rfl))).trans rfl)
theorem dk_78 {code : ByteArray} {pc : Nat} (h : DkAt code pc [78]) : decode code pc = .ok (.astore_n 3, 1) := dk_of ((dk_bind (dk_u1 (h 0 _ rfl))).trans rfl)
theorem dk_79 {code : ByteArray} {pc : Nat} (h : DkAt code pc [79]) : decode code pc = .ok (.iastore, 1) := dk_of ((dk_bind (dk_u1 (h 0 _ rfl))).trans rfl)
theorem dk_84 {code : ByteArray} {pc : Nat} (h : DkAt code pc [84]) : decode code pc = .ok (.bastore, 1) := dk_of ((dk_bind (dk_u1 (h 0 _ rfl))).trans rfl)
theorem dk_87 {code : ByteArray} {pc : Nat} (h : DkAt code pc [87]) : decode code pc = .ok (.pop, 1) := dk_of ((dk_bind (dk_u1 (h 0 _ rfl))).trans rfl)
theorem dk_89 {code : ByteArray} {pc : Nat} (h : DkAt code pc [89]) : decode code pc = .ok (.dup, 1) := dk_of ((dk_bind (dk_u1 (h 0 _ rfl))).trans rfl)
theorem dk_92 {code : ByteArray} {pc : Nat} (h : DkAt code pc [92]) : decode code pc = .ok (.dup2, 1) := dk_of ((dk_bind (dk_u1 (h 0 _ rfl))).trans rfl)
theorem dk_96 {code : ByteArray} {pc : Nat} (h : DkAt code pc [96]) : decode code pc = .ok (.iadd, 1) := dk_of ((dk_bind (dk_u1 (h 0 _ rfl))).trans rfl)
theorem dk_100 {code : ByteArray} {pc : Nat} (h : DkAt code pc [100]) : decode code pc = .ok (.isub, 1) := dk_of ((dk_bind (dk_u1 (h 0 _ rfl))).trans rfl)
theorem dk_104 {code : ByteArray} {pc : Nat} (h : DkAt code pc [104]) : decode code pc = .ok (.imul, 1) := dk_of ((dk_bind (dk_u1 (h 0 _ rfl))).trans rfl)
theorem dk_112 {code : ByteArray} {pc : Nat} (h : DkAt code pc [112]) : decode code pc = .ok (.irem, 1) := dk_of ((dk_bind (dk_u1 (h 0 _ rfl))).trans rfl)
theorem dk_120 {code : ByteArray} {pc : Nat} (h : DkAt code pc [120]) : decode code pc = .ok (.ishl, 1) := dk_of ((dk_bind (dk_u1 (h 0 _ rfl))).trans rfl)
theorem dk_122 {code : ByteArray} {pc : Nat} (h : DkAt code pc [122]) : decode code pc = .ok (.ishr, 1) := dk_of ((dk_bind (dk_u1 (h 0 _ rfl))).trans rfl)
theorem dk_124 {code : ByteArray} {pc : Nat} (h : DkAt code pc [124]) : decode code pc = .ok (.iushr, 1) := dk_of ((dk_bind (dk_u1 (h 0 _ rfl))).trans rfl)
theorem dk_126 {code : ByteArray} {pc : Nat} (h : DkAt code pc [126]) : decode code pc = .ok (.iand, 1) := dk_of ((dk_bind (dk_u1 (h 0 _ rfl))).trans rfl)
theorem dk_128 {code : ByteArray} {pc : Nat} (h : DkAt code pc [128]) : decode code pc = .ok (.ior, 1) := dk_of ((dk_bind (dk_u1 (h 0 _ rfl))).trans rfl)
theorem dk_130 {code : ByteArray} {pc : Nat} (h : DkAt code pc [130]) : decode code pc = .ok (.ixor, 1) := dk_of ((dk_bind (dk_u1 (h 0 _ rfl))).trans rfl)
theorem dk_132 {code : ByteArray} {pc : Nat} (a b : UInt8) (h : DkAt code pc [132, a, b]) : decode code pc = .ok (.iinc a.toNat (Reader.signed 8 b.toNat), 3) := dk_of ((dk_bind (dk_u1 (h 0 _ rfl))).trans ((dk_bind (dk_u1 (h 1 _ rfl))).trans ((dk_bind (dk_map (dk_u1 (h 2 _ rfl)))).trans rfl)))
theorem dk_145 {code : ByteArray} {pc : Nat} (h : DkAt code pc [145]) : decode code pc = .ok (.i2b, 1) := dk_of ((dk_bind (dk_u1 (h 0 _ rfl))).trans rfl)
theorem dk_153 {code : ByteArray} {pc : Nat} (a b : UInt8) (h : DkAt code pc [153, a, b]) : decode code pc = .ok (.ifCond .eq (Reader.signed 16 (a.toNat * 256 + b.toNat)), 3) := dk_of ((dk_bind (dk_u1 (h 0 _ rfl))).trans ((dk_bind (dk_map (dk_u2 (h 1 _ rfl) (h 2 _ rfl)))).trans rfl))
theorem dk_154 {code : ByteArray} {pc : Nat} (a b : UInt8) (h : DkAt code pc [154, a, b]) : decode code pc = .ok (.ifCond .ne (Reader.signed 16 (a.toNat * 256 + b.toNat)), 3) := dk_of ((dk_bind (dk_u1 (h 0 _ rfl))).trans ((dk_bind (dk_map (dk_u2 (h 1 _ rfl) (h 2 _ rfl)))).trans rfl))
theorem dk_159 {code : ByteArray} {pc : Nat} (a b : UInt8) (h : DkAt code pc [159, a, b]) : decode code pc = .ok (.if_icmp .eq (Reader.signed 16 (a.toNat * 256 + b.toNat)), 3) := dk_of ((dk_bind (dk_u1 (h 0 _ rfl))).trans ((dk_bind (dk_map (dk_u2 (h 1 _ rfl) (h 2 _ rfl)))).trans rfl))
theorem dk_161 {code : ByteArray} {pc : Nat} (a b : UInt8) (h : DkAt code pc [161, a, b]) : decode code pc = .ok (.if_icmp .lt (Reader.signed 16 (a.toNat * 256 + b.toNat)), 3) := dk_of ((dk_bind (dk_u1 (h 0 _ rfl))).trans ((dk_bind (dk_map (dk_u2 (h 1 _ rfl) (h 2 _ rfl)))).trans rfl))
theorem dk_162 {code : ByteArray} {pc : Nat} (a b : UInt8) (h : DkAt code pc [162, a, b]) : decode code pc = .ok (.if_icmp .ge (Reader.signed 16 (a.toNat * 256 + b.toNat)), 3) := dk_of ((dk_bind (dk_u1 (h 0 _ rfl))).trans ((dk_bind (dk_map (dk_u2 (h 1 _ rfl) (h 2 _ rfl)))).trans rfl))
theorem dk_163 {code : ByteArray} {pc : Nat} (a b : UInt8) (h : DkAt code pc [163, a, b]) : decode code pc = .ok (.if_icmp .gt (Reader.signed 16 (a.toNat * 256 + b.toNat)), 3) := dk_of ((dk_bind (dk_u1 (h 0 _ rfl))).trans ((dk_bind (dk_map (dk_u2 (h 1 _ rfl) (h 2 _ rfl)))).trans rfl))
theorem dk_164 {code : ByteArray} {pc : Nat} (a b : UInt8) (h : DkAt code pc [164, a, b]) : decode code pc = .ok (.if_icmp .le (Reader.signed 16 (a.toNat * 256 + b.toNat)), 3) := dk_of ((dk_bind (dk_u1 (h 0 _ rfl))).trans ((dk_bind (dk_map (dk_u2 (h 1 _ rfl) (h 2 _ rfl)))).trans rfl))
theorem dk_167 {code : ByteArray} {pc : Nat} (a b : UInt8) (h : DkAt code pc [167, a, b]) : decode code pc = .ok (.goto (Reader.signed 16 (a.toNat * 256 + b.toNat)), 3) := dk_of ((dk_bind (dk_u1 (h 0 _ rfl))).trans ((dk_bind (dk_map (dk_u2 (h 1 _ rfl) (h 2 _ rfl)))).trans rfl))
theorem dk_172 {code : ByteArray} {pc : Nat} (h : DkAt code pc [172]) : decode code pc = .ok (.ireturn, 1) := dk_of ((dk_bind (dk_u1 (h 0 _ rfl))).trans rfl)
theorem dk_176 {code : ByteArray} {pc : Nat} (h : DkAt code pc [176]) : decode code pc = .ok (.areturn, 1) := dk_of ((dk_bind (dk_u1 (h 0 _ rfl))).trans rfl)
theorem dk_177 {code : ByteArray} {pc : Nat} (h : DkAt code pc [177]) : decode code pc = .ok (.return_, 1) := dk_of ((dk_bind (dk_u1 (h 0 _ rfl))).trans rfl)
theorem dk_178 {code : ByteArray} {pc : Nat} (a b : UInt8) (h : DkAt code pc [178, a, b]) : decode code pc = .ok (.getstatic (a.toNat * 256 + b.toNat), 3) := dk_of ((dk_bind (dk_u1 (h 0 _ rfl))).trans ((dk_bind (dk_u2 (h 1 _ rfl) (h 2 _ rfl))).trans rfl))
theorem dk_180 {code : ByteArray} {pc : Nat} (a b : UInt8) (h : DkAt code pc [180, a, b]) : decode code pc = .ok (.getfield (a.toNat * 256 + b.toNat), 3) := dk_of ((dk_bind (dk_u1 (h 0 _ rfl))).trans ((dk_bind (dk_u2 (h 1 _ rfl) (h 2 _ rfl))).trans rfl))
theorem dk_181 {code : ByteArray} {pc : Nat} (a b : UInt8) (h : DkAt code pc [181, a, b]) : decode code pc = .ok (.putfield (a.toNat * 256 + b.toNat), 3) := dk_of ((dk_bind (dk_u1 (h 0 _ rfl))).trans ((dk_bind (dk_u2 (h 1 _ rfl) (h 2 _ rfl))).trans rfl))
theorem dk_182 {code : ByteArray} {pc : Nat} (a b : UInt8) (h : DkAt code pc [182, a, b]) : decode code pc = .ok (.invokevirtual (a.toNat * 256 + b.toNat), 3) := dk_of ((dk_bind (dk_u1 (h 0 _ rfl))).trans ((dk_bind (dk_u2 (h 1 _ rfl) (h 2 _ rfl))).trans rfl))
theorem dk_183 {code : ByteArray} {pc : Nat} (a b : UInt8) (h : DkAt code pc [183, a, b]) : decode code pc = .ok (.invokespecial (a.toNat * 256 + b.toNat), 3) := dk_of ((dk_bind (dk_u1 (h 0 _ rfl))).trans ((dk_bind (dk_u2 (h 1 _ rfl) (h 2 _ rfl))).trans rfl))
theorem dk_184 {code : ByteArray} {pc : Nat} (a b : UInt8) (h : DkAt code pc [184, a, b]) : decode code pc = .ok (.invokestatic (a.toNat * 256 + b.toNat), 3) := dk_of ((dk_bind (dk_u1 (h 0 _ rfl))).trans ((dk_bind (dk_u2 (h 1 _ rfl) (h 2 _ rfl))).trans rfl))
theorem dk_187 {code : ByteArray} {pc : Nat} (a b : UInt8) (h : DkAt code pc [187, a, b]) : decode code pc = .ok (.new (a.toNat * 256 + b.toNat), 3) := dk_of ((dk_bind (dk_u1 (h 0 _ rfl))).trans ((dk_bind (dk_u2 (h 1 _ rfl) (h 2 _ rfl))).trans rfl))
theorem dk_188_8 {code : ByteArray} {pc : Nat} (h : DkAt code pc [188, 8]) : decode code pc = .ok (.newarray .byte, 2) := dk_of ((dk_bind (dk_u1 (h 0 _ rfl))).trans ((dk_bind (dk_u1 (h 1 _ rfl))).trans rfl))
theorem dk_188_10 {code : ByteArray} {pc : Nat} (h : DkAt code pc [188, 10]) : decode code pc = .ok (.newarray .int, 2) := dk_of ((dk_bind (dk_u1 (h 0 _ rfl))).trans ((dk_bind (dk_u1 (h 1 _ rfl))).trans rfl))
theorem dk_190 {code : ByteArray} {pc : Nat} (h : DkAt code pc [190]) : decode code pc = .ok (.arraylength, 1) := dk_of ((dk_bind (dk_u1 (h 0 _ rfl))).trans rfl)
theorem dk_191 {code : ByteArray} {pc : Nat} (h : DkAt code pc [191]) : decode code pc = .ok (.athrow, 1) := dk_of ((dk_bind (dk_u1 (h 0 _ rfl))).trans rfl)
theorem dk_198 {code : ByteArray} {pc : Nat} (a b : UInt8) (h : DkAt code pc [198, a, b]) : decode code pc = .ok (.ifnull (Reader.signed 16 (a.toNat * 256 + b.toNat)), 3) := dk_of ((dk_bind (dk_u1 (h 0 _ rfl))).trans ((dk_bind (dk_map (dk_u2 (h 1 _ rfl) (h 2 _ rfl)))).trans rfl))
theorem dk_199 {code : ByteArray} {pc : Nat} (a b : UInt8) (h : DkAt code pc [199, a, b]) : decode code pc = .ok (.ifnonnull (Reader.signed 16 (a.toNat * 256 + b.toNat)), 3) := dk_of ((dk_bind (dk_u1 (h 0 _ rfl))).trans ((dk_bind (dk_map (dk_u2 (h 1 _ rfl) (h 2 _ rfl)))).trans rfl))
end
section
/-! java/lang/Object -/
set_option maxRecDepth 100000
def RJ5 : String := "java/lang/Object"
abbrev cJ5_init : ByteArray := object_method_1_code
def yJ5_init : MethodName := ⟨RJ5, "<init>", "()V"⟩
theorem dJ5_init_0 : decode cJ5_init 0 = .ok (.return_, 1) := by decide +kernel
theorem q30 : (Jvm.Cond.instanceMethod ({ cls := "java/lang/Object", name := "<init>", desc := "()V" } : Jvm.MethodName)) ∈ lw_all := lw_g (lw_at lw_m1 20 rfl) rfl
theorem q31 : (Jvm.Cond.code ({ cls := "java/lang/Object", name := "<init>", desc := "()V" } : Jvm.MethodName) object_method_1_code (1 : Nat) (Option.none : Option Jvm.ClassFile.FieldType)) ∈ lw_all := lw_g (lw_at lw_m1 21 rfl) rfl
/-! java/util/Arrays -/
set_option maxRecDepth 100000
def RJ4 : String := "java/util/Arrays"
abbrev cJ4_fill : ByteArray := prog_15_method_103_code
def yJ4_fill : MethodName := ⟨RJ4, "fill", "([II)V"⟩
def dkwJ4_fill_0 : List UInt8 := [3, 61, 42, 190, 62, 28, 29, 162, 0, 13, 42, 28, 27, 79, 132, 2, 1, 167, 255, 244, 177]
abbrev dktJ4_fill_0 : List UInt8 := dkwJ4_fill_0 ++ []
theorem dksJ4_fill_0 : cJ4_fill.data.toList.drop 0 = dktJ4_fill_0 := by decide +kernel
theorem dJ4_fill_0 : decode cJ4_fill 0 = .ok (.iconst 0, 1) := dk_3 (dk_at dksJ4_fill_0 0 rfl rfl)
theorem dJ4_fill_1 : decode cJ4_fill 1 = .ok (.istore_n 2, 1) := dk_61 (dk_at dksJ4_fill_0 1 rfl rfl)
theorem dJ4_fill_2 : decode cJ4_fill 2 = .ok (.aload_n 0, 1) := dk_42 (dk_at dksJ4_fill_0 2 rfl rfl)
theorem dJ4_fill_3 : decode cJ4_fill 3 = .ok (.arraylength, 1) := dk_190 (dk_at dksJ4_fill_0 3 rfl rfl)
theorem dJ4_fill_4 : decode cJ4_fill 4 = .ok (.istore_n 3, 1) := dk_62 (dk_at dksJ4_fill_0 4 rfl rfl)
theorem dJ4_fill_5 : decode cJ4_fill 5 = .ok (.iload_n 2, 1) := dk_28 (dk_at dksJ4_fill_0 5 rfl rfl)
theorem dJ4_fill_6 : decode cJ4_fill 6 = .ok (.iload_n 3, 1) := dk_29 (dk_at dksJ4_fill_0 6 rfl rfl)
theorem dJ4_fill_7 : decode cJ4_fill 7 = .ok (.if_icmp .ge 13, 3) := dk_162 0 13 (dk_at dksJ4_fill_0 7 rfl rfl)
theorem dJ4_fill_10 : decode cJ4_fill 10 = .ok (.aload_n 0, 1) := dk_42 (dk_at dksJ4_fill_0 10 rfl rfl)
theorem dJ4_fill_11 : decode cJ4_fill 11 = .ok (.iload_n 2, 1) := dk_28 (dk_at dksJ4_fill_0 11 rfl rfl)
theorem dJ4_fill_12 : decode cJ4_fill 12 = .ok (.iload_n 1, 1) := dk_27 (dk_at dksJ4_fill_0 12 rfl rfl)
theorem dJ4_fill_13 : decode cJ4_fill 13 = .ok (.iastore, 1) := dk_79 (dk_at dksJ4_fill_0 13 rfl rfl)
theorem dJ4_fill_14 : decode cJ4_fill 14 = .ok (.iinc 2 1, 3) := dk_132 2 1 (dk_at dksJ4_fill_0 14 rfl rfl)
theorem dJ4_fill_17 : decode cJ4_fill 17 = .ok (.goto (-12), 3) := dk_167 255 244 (dk_at dksJ4_fill_0 17 rfl rfl)
theorem dJ4_fill_20 : decode cJ4_fill 20 = .ok (.return_, 1) := dk_177 (dk_at dksJ4_fill_0 20 rfl rfl)
theorem q23 : (Jvm.Cond.initialized "java/util/Arrays") ∈ lw_all := lw_g (lw_at lw_m1 13 rfl) rfl
theorem q220 : (Jvm.Cond.static ({ cls := "java/util/Arrays", name := "fill", desc := "([II)V" } : Jvm.MethodName)) ∈ lw_all := lw_g (lw_at lw_m1 210 rfl) rfl
theorem q221 : (Jvm.Cond.code ({ cls := "java/util/Arrays", name := "fill", desc := "([II)V" } : Jvm.MethodName) prog_15_method_103_code (4 : Nat) (Option.none : Option Jvm.ClassFile.FieldType)) ∈ lw_all := lw_g (lw_at lw_m1 211 rfl) rfl
/-! CryptDesk -/
set_option maxRecDepth 100000
def RX0 : String := "CryptDesk"
def TX0 : u_T := fun k => match k with
  | 0 => ("CryptDesk", "word", "[B", true)
  | 1 => ("CryptDesk", "size", "I", false)
  | 2 => ("CryptDesk", "salt", "[B", true)
  | _ => ("CryptDesk", "out", "[B", false)
def tyX0 : Nat → FieldType := fun k => match k with
  | 0 => .array .byte
  | 1 => .int
  | 2 => .array .byte
  | _ => .array .byte
abbrev wsX00 : List Cond := u_ws RX0 TX0 4
theorem nmX0 : ∀ a, a < 4 → ∀ b, b < 4 → a ≠ b → (TX0 a).2.1 ≠ (TX0 b).2.1 := by decide +kernel
theorem tyX0_ok : ∀ k, k < 4 → parseFieldDescriptor (TX0 k).2.2.1 = some (tyX0 k) := by decide +kernel
abbrev cX0_init : ByteArray := prog_2_method_1_code
def yX0_init : MethodName := ⟨RX0, "<init>", "()V"⟩
def dkwX0_init_1 : List UInt8 := [181, 0, 17, 42, 16, 24, 188, 8, 181, 0, 20, 177]
abbrev dktX0_init_1 : List UInt8 := dkwX0_init_1 ++ []
def dkwX0_init_0 : List UInt8 := [42, 183, 0, 1, 42, 16, 72, 188, 8, 181, 0, 7, 42, 4, 181, 0, 13, 42, 16, 16, 188, 8]
abbrev dktX0_init_0 : List UInt8 := dkwX0_init_0 ++ dktX0_init_1
theorem dksX0_init_0 : cX0_init.data.toList.drop 0 = dktX0_init_0 := by decide +kernel
theorem dksX0_init_1 : cX0_init.data.toList.drop 22 = dktX0_init_1 := dk_seg dksX0_init_0 22 rfl rfl
theorem dX0_init_0 : decode cX0_init 0 = .ok (.aload_n 0, 1) := dk_42 (dk_at dksX0_init_0 0 rfl rfl)
theorem dX0_init_1 : decode cX0_init 1 = .ok (.invokespecial 1, 3) := dk_183 0 1 (dk_at dksX0_init_0 1 rfl rfl)
theorem dX0_init_4 : decode cX0_init 4 = .ok (.aload_n 0, 1) := dk_42 (dk_at dksX0_init_0 4 rfl rfl)
theorem dX0_init_5 : decode cX0_init 5 = .ok (.bipush 72, 2) := dk_16 72 (dk_at dksX0_init_0 5 rfl rfl)
theorem dX0_init_7 : decode cX0_init 7 = .ok (.newarray .byte, 2) := dk_188_8 (dk_at dksX0_init_0 7 rfl rfl)
theorem dX0_init_9 : decode cX0_init 9 = .ok (.putfield 7, 3) := dk_181 0 7 (dk_at dksX0_init_0 9 rfl rfl)
theorem dX0_init_12 : decode cX0_init 12 = .ok (.aload_n 0, 1) := dk_42 (dk_at dksX0_init_0 12 rfl rfl)
theorem dX0_init_13 : decode cX0_init 13 = .ok (.iconst 1, 1) := dk_4 (dk_at dksX0_init_0 13 rfl rfl)
theorem dX0_init_14 : decode cX0_init 14 = .ok (.putfield 13, 3) := dk_181 0 13 (dk_at dksX0_init_0 14 rfl rfl)
theorem dX0_init_17 : decode cX0_init 17 = .ok (.aload_n 0, 1) := dk_42 (dk_at dksX0_init_0 17 rfl rfl)
theorem dX0_init_18 : decode cX0_init 18 = .ok (.bipush 16, 2) := dk_16 16 (dk_at dksX0_init_0 18 rfl rfl)
theorem dX0_init_20 : decode cX0_init 20 = .ok (.newarray .byte, 2) := dk_188_8 (dk_at dksX0_init_0 20 rfl rfl)
theorem dX0_init_22 : decode cX0_init 22 = .ok (.putfield 17, 3) := dk_181 0 17 (dk_at dksX0_init_1 0 rfl rfl)
theorem dX0_init_25 : decode cX0_init 25 = .ok (.aload_n 0, 1) := dk_42 (dk_at dksX0_init_1 3 rfl rfl)
theorem dX0_init_26 : decode cX0_init 26 = .ok (.bipush 24, 2) := dk_16 24 (dk_at dksX0_init_1 4 rfl rfl)
theorem dX0_init_28 : decode cX0_init 28 = .ok (.newarray .byte, 2) := dk_188_8 (dk_at dksX0_init_1 6 rfl rfl)
theorem dX0_init_30 : decode cX0_init 30 = .ok (.putfield 20, 3) := dk_181 0 20 (dk_at dksX0_init_1 8 rfl rfl)
theorem dX0_init_33 : decode cX0_init 33 = .ok (.return_, 1) := dk_177 (dk_at dksX0_init_1 11 rfl rfl)
abbrev cX0_word : ByteArray := prog_2_method_3_code
def yX0_word : MethodName := ⟨RX0, "word", "(IIII)V"⟩
def dkwX0_word_2 : List UInt8 := [184, 0, 24, 177]
abbrev dktX0_word_2 : List UInt8 := dkwX0_word_2 ++ []
def dkwX0_word_1 : List UInt8 := [180, 0, 7, 21, 5, 7, 96, 29, 184, 0, 24, 42, 180, 0, 7, 21, 5, 16, 8, 96, 21, 4]
abbrev dktX0_word_1 : List UInt8 := dkwX0_word_1 ++ dktX0_word_2
def dkwX0_word_0 : List UInt8 := [16, 12, 27, 18, 23, 126, 16, 6, 112, 104, 54, 5, 42, 180, 0, 7, 21, 5, 28, 184, 0, 24, 42]
abbrev dktX0_word_0 : List UInt8 := dkwX0_word_0 ++ dktX0_word_1
theorem dksX0_word_0 : cX0_word.data.toList.drop 0 = dktX0_word_0 := by decide +kernel
theorem dksX0_word_1 : cX0_word.data.toList.drop 23 = dktX0_word_1 := dk_seg dksX0_word_0 23 rfl rfl
theorem dksX0_word_2 : cX0_word.data.toList.drop 45 = dktX0_word_2 := dk_seg dksX0_word_1 22 rfl rfl
theorem dX0_word_0 : decode cX0_word 0 = .ok (.bipush 12, 2) := dk_16 12 (dk_at dksX0_word_0 0 rfl rfl)
theorem dX0_word_2 : decode cX0_word 2 = .ok (.iload_n 1, 1) := dk_27 (dk_at dksX0_word_0 2 rfl rfl)
theorem dX0_word_3 : decode cX0_word 3 = .ok (.ldc 23, 2) := dk_18 23 (dk_at dksX0_word_0 3 rfl rfl)
theorem dX0_word_5 : decode cX0_word 5 = .ok (.iand, 1) := dk_126 (dk_at dksX0_word_0 5 rfl rfl)
theorem dX0_word_6 : decode cX0_word 6 = .ok (.bipush 6, 2) := dk_16 6 (dk_at dksX0_word_0 6 rfl rfl)
theorem dX0_word_8 : decode cX0_word 8 = .ok (.irem, 1) := dk_112 (dk_at dksX0_word_0 8 rfl rfl)
theorem dX0_word_9 : decode cX0_word 9 = .ok (.imul, 1) := dk_104 (dk_at dksX0_word_0 9 rfl rfl)
theorem dX0_word_10 : decode cX0_word 10 = .ok (.istore 5, 2) := dk_54 5 (dk_at dksX0_word_0 10 rfl rfl)
theorem dX0_word_12 : decode cX0_word 12 = .ok (.aload_n 0, 1) := dk_42 (dk_at dksX0_word_0 12 rfl rfl)
theorem dX0_word_13 : decode cX0_word 13 = .ok (.getfield 7, 3) := dk_180 0 7 (dk_at dksX0_word_0 13 rfl rfl)
theorem dX0_word_16 : decode cX0_word 16 = .ok (.iload 5, 2) := dk_21 5 (dk_at dksX0_word_0 16 rfl rfl)
theorem dX0_word_18 : decode cX0_word 18 = .ok (.iload_n 2, 1) := dk_28 (dk_at dksX0_word_0 18 rfl rfl)
theorem dX0_word_19 : decode cX0_word 19 = .ok (.invokestatic 24, 3) := dk_184 0 24 (dk_at dksX0_word_0 19 rfl rfl)
theorem dX0_word_22 : decode cX0_word 22 = .ok (.aload_n 0, 1) := dk_42 (dk_at dksX0_word_0 22 rfl rfl)
theorem dX0_word_23 : decode cX0_word 23 = .ok (.getfield 7, 3) := dk_180 0 7 (dk_at dksX0_word_1 0 rfl rfl)
theorem dX0_word_26 : decode cX0_word 26 = .ok (.iload 5, 2) := dk_21 5 (dk_at dksX0_word_1 3 rfl rfl)
theorem dX0_word_28 : decode cX0_word 28 = .ok (.iconst 4, 1) := dk_7 (dk_at dksX0_word_1 5 rfl rfl)
theorem dX0_word_29 : decode cX0_word 29 = .ok (.iadd, 1) := dk_96 (dk_at dksX0_word_1 6 rfl rfl)
theorem dX0_word_30 : decode cX0_word 30 = .ok (.iload_n 3, 1) := dk_29 (dk_at dksX0_word_1 7 rfl rfl)
theorem dX0_word_31 : decode cX0_word 31 = .ok (.invokestatic 24, 3) := dk_184 0 24 (dk_at dksX0_word_1 8 rfl rfl)
theorem dX0_word_34 : decode cX0_word 34 = .ok (.aload_n 0, 1) := dk_42 (dk_at dksX0_word_1 11 rfl rfl)
theorem dX0_word_35 : decode cX0_word 35 = .ok (.getfield 7, 3) := dk_180 0 7 (dk_at dksX0_word_1 12 rfl rfl)
theorem dX0_word_38 : decode cX0_word 38 = .ok (.iload 5, 2) := dk_21 5 (dk_at dksX0_word_1 15 rfl rfl)
theorem dX0_word_40 : decode cX0_word 40 = .ok (.bipush 8, 2) := dk_16 8 (dk_at dksX0_word_1 17 rfl rfl)
theorem dX0_word_42 : decode cX0_word 42 = .ok (.iadd, 1) := dk_96 (dk_at dksX0_word_1 19 rfl rfl)
theorem dX0_word_43 : decode cX0_word 43 = .ok (.iload 4, 2) := dk_21 4 (dk_at dksX0_word_1 20 rfl rfl)
theorem dX0_word_45 : decode cX0_word 45 = .ok (.invokestatic 24, 3) := dk_184 0 24 (dk_at dksX0_word_2 0 rfl rfl)
theorem dX0_word_48 : decode cX0_word 48 = .ok (.return_, 1) := dk_177 (dk_at dksX0_word_2 3 rfl rfl)
abbrev cX0_lay : ByteArray := prog_2_method_2_code
def yX0_lay : MethodName := ⟨RX0, "lay", "([BII)V"⟩
def dkwX0_lay_1 : List UInt8 := [16, 8, 122, 145, 84, 42, 27, 6, 96, 28, 145, 84, 177]
abbrev dktX0_lay_1 : List UInt8 := dkwX0_lay_1 ++ []
def dkwX0_lay_0 : List UInt8 := [42, 27, 28, 16, 24, 122, 145, 84, 42, 27, 4, 96, 28, 16, 16, 122, 145, 84, 42, 27, 5, 96, 28]
abbrev dktX0_lay_0 : List UInt8 := dkwX0_lay_0 ++ dktX0_lay_1
theorem dksX0_lay_0 : cX0_lay.data.toList.drop 0 = dktX0_lay_0 := by decide +kernel
theorem dksX0_lay_1 : cX0_lay.data.toList.drop 23 = dktX0_lay_1 := dk_seg dksX0_lay_0 23 rfl rfl
theorem dX0_lay_0 : decode cX0_lay 0 = .ok (.aload_n 0, 1) := dk_42 (dk_at dksX0_lay_0 0 rfl rfl)
theorem dX0_lay_1 : decode cX0_lay 1 = .ok (.iload_n 1, 1) := dk_27 (dk_at dksX0_lay_0 1 rfl rfl)
theorem dX0_lay_2 : decode cX0_lay 2 = .ok (.iload_n 2, 1) := dk_28 (dk_at dksX0_lay_0 2 rfl rfl)
theorem dX0_lay_3 : decode cX0_lay 3 = .ok (.bipush 24, 2) := dk_16 24 (dk_at dksX0_lay_0 3 rfl rfl)
theorem dX0_lay_5 : decode cX0_lay 5 = .ok (.ishr, 1) := dk_122 (dk_at dksX0_lay_0 5 rfl rfl)
theorem dX0_lay_6 : decode cX0_lay 6 = .ok (.i2b, 1) := dk_145 (dk_at dksX0_lay_0 6 rfl rfl)
theorem dX0_lay_7 : decode cX0_lay 7 = .ok (.bastore, 1) := dk_84 (dk_at dksX0_lay_0 7 rfl rfl)
theorem dX0_lay_8 : decode cX0_lay 8 = .ok (.aload_n 0, 1) := dk_42 (dk_at dksX0_lay_0 8 rfl rfl)
theorem dX0_lay_9 : decode cX0_lay 9 = .ok (.iload_n 1, 1) := dk_27 (dk_at dksX0_lay_0 9 rfl rfl)
theorem dX0_lay_10 : decode cX0_lay 10 = .ok (.iconst 1, 1) := dk_4 (dk_at dksX0_lay_0 10 rfl rfl)
theorem dX0_lay_11 : decode cX0_lay 11 = .ok (.iadd, 1) := dk_96 (dk_at dksX0_lay_0 11 rfl rfl)
theorem dX0_lay_12 : decode cX0_lay 12 = .ok (.iload_n 2, 1) := dk_28 (dk_at dksX0_lay_0 12 rfl rfl)
theorem dX0_lay_13 : decode cX0_lay 13 = .ok (.bipush 16, 2) := dk_16 16 (dk_at dksX0_lay_0 13 rfl rfl)
theorem dX0_lay_15 : decode cX0_lay 15 = .ok (.ishr, 1) := dk_122 (dk_at dksX0_lay_0 15 rfl rfl)
theorem dX0_lay_16 : decode cX0_lay 16 = .ok (.i2b, 1) := dk_145 (dk_at dksX0_lay_0 16 rfl rfl)
theorem dX0_lay_17 : decode cX0_lay 17 = .ok (.bastore, 1) := dk_84 (dk_at dksX0_lay_0 17 rfl rfl)
theorem dX0_lay_18 : decode cX0_lay 18 = .ok (.aload_n 0, 1) := dk_42 (dk_at dksX0_lay_0 18 rfl rfl)
theorem dX0_lay_19 : decode cX0_lay 19 = .ok (.iload_n 1, 1) := dk_27 (dk_at dksX0_lay_0 19 rfl rfl)
theorem dX0_lay_20 : decode cX0_lay 20 = .ok (.iconst 2, 1) := dk_5 (dk_at dksX0_lay_0 20 rfl rfl)
theorem dX0_lay_21 : decode cX0_lay 21 = .ok (.iadd, 1) := dk_96 (dk_at dksX0_lay_0 21 rfl rfl)
theorem dX0_lay_22 : decode cX0_lay 22 = .ok (.iload_n 2, 1) := dk_28 (dk_at dksX0_lay_0 22 rfl rfl)
theorem dX0_lay_23 : decode cX0_lay 23 = .ok (.bipush 8, 2) := dk_16 8 (dk_at dksX0_lay_1 0 rfl rfl)
theorem dX0_lay_25 : decode cX0_lay 25 = .ok (.ishr, 1) := dk_122 (dk_at dksX0_lay_1 2 rfl rfl)
theorem dX0_lay_26 : decode cX0_lay 26 = .ok (.i2b, 1) := dk_145 (dk_at dksX0_lay_1 3 rfl rfl)
theorem dX0_lay_27 : decode cX0_lay 27 = .ok (.bastore, 1) := dk_84 (dk_at dksX0_lay_1 4 rfl rfl)
theorem dX0_lay_28 : decode cX0_lay 28 = .ok (.aload_n 0, 1) := dk_42 (dk_at dksX0_lay_1 5 rfl rfl)
theorem dX0_lay_29 : decode cX0_lay 29 = .ok (.iload_n 1, 1) := dk_27 (dk_at dksX0_lay_1 6 rfl rfl)
theorem dX0_lay_30 : decode cX0_lay 30 = .ok (.iconst 3, 1) := dk_6 (dk_at dksX0_lay_1 7 rfl rfl)
theorem dX0_lay_31 : decode cX0_lay 31 = .ok (.iadd, 1) := dk_96 (dk_at dksX0_lay_1 8 rfl rfl)
theorem dX0_lay_32 : decode cX0_lay 32 = .ok (.iload_n 2, 1) := dk_28 (dk_at dksX0_lay_1 9 rfl rfl)
theorem dX0_lay_33 : decode cX0_lay 33 = .ok (.i2b, 1) := dk_145 (dk_at dksX0_lay_1 10 rfl rfl)
theorem dX0_lay_34 : decode cX0_lay 34 = .ok (.bastore, 1) := dk_84 (dk_at dksX0_lay_1 11 rfl rfl)
theorem dX0_lay_35 : decode cX0_lay 35 = .ok (.return_, 1) := dk_177 (dk_at dksX0_lay_1 12 rfl rfl)
abbrev cX0_cut : ByteArray := prog_2_method_4_code
def yX0_cut : MethodName := ⟨RX0, "cut", "(I)V"⟩
def dkwX0_cut_0 : List UInt8 := [42, 4, 27, 18, 23, 126, 16, 72, 112, 96, 181, 0, 13, 177]
abbrev dktX0_cut_0 : List UInt8 := dkwX0_cut_0 ++ []
theorem dksX0_cut_0 : cX0_cut.data.toList.drop 0 = dktX0_cut_0 := by decide +kernel
theorem dX0_cut_0 : decode cX0_cut 0 = .ok (.aload_n 0, 1) := dk_42 (dk_at dksX0_cut_0 0 rfl rfl)
theorem dX0_cut_1 : decode cX0_cut 1 = .ok (.iconst 1, 1) := dk_4 (dk_at dksX0_cut_0 1 rfl rfl)
theorem dX0_cut_2 : decode cX0_cut 2 = .ok (.iload_n 1, 1) := dk_27 (dk_at dksX0_cut_0 2 rfl rfl)
theorem dX0_cut_3 : decode cX0_cut 3 = .ok (.ldc 23, 2) := dk_18 23 (dk_at dksX0_cut_0 3 rfl rfl)
theorem dX0_cut_5 : decode cX0_cut 5 = .ok (.iand, 1) := dk_126 (dk_at dksX0_cut_0 5 rfl rfl)
theorem dX0_cut_6 : decode cX0_cut 6 = .ok (.bipush 72, 2) := dk_16 72 (dk_at dksX0_cut_0 6 rfl rfl)
theorem dX0_cut_8 : decode cX0_cut 8 = .ok (.irem, 1) := dk_112 (dk_at dksX0_cut_0 8 rfl rfl)
theorem dX0_cut_9 : decode cX0_cut 9 = .ok (.iadd, 1) := dk_96 (dk_at dksX0_cut_0 9 rfl rfl)
theorem dX0_cut_10 : decode cX0_cut 10 = .ok (.putfield 13, 3) := dk_181 0 13 (dk_at dksX0_cut_0 10 rfl rfl)
theorem dX0_cut_13 : decode cX0_cut 13 = .ok (.return_, 1) := dk_177 (dk_at dksX0_cut_0 13 rfl rfl)
abbrev cX0_salt : ByteArray := prog_2_method_5_code
def yX0_salt : MethodName := ⟨RX0, "salt", "(IIII)V"⟩
def dkwX0_salt_1 : List UInt8 := [29, 184, 0, 24, 42, 180, 0, 17, 16, 12, 21, 4, 184, 0, 24, 177]
abbrev dktX0_salt_1 : List UInt8 := dkwX0_salt_1 ++ []
def dkwX0_salt_0 : List UInt8 := [42, 180, 0, 17, 3, 27, 184, 0, 24, 42, 180, 0, 17, 7, 28, 184, 0, 24, 42, 180, 0, 17, 16, 8]
abbrev dktX0_salt_0 : List UInt8 := dkwX0_salt_0 ++ dktX0_salt_1
theorem dksX0_salt_0 : cX0_salt.data.toList.drop 0 = dktX0_salt_0 := by decide +kernel
theorem dksX0_salt_1 : cX0_salt.data.toList.drop 24 = dktX0_salt_1 := dk_seg dksX0_salt_0 24 rfl rfl
theorem dX0_salt_0 : decode cX0_salt 0 = .ok (.aload_n 0, 1) := dk_42 (dk_at dksX0_salt_0 0 rfl rfl)
theorem dX0_salt_1 : decode cX0_salt 1 = .ok (.getfield 17, 3) := dk_180 0 17 (dk_at dksX0_salt_0 1 rfl rfl)
theorem dX0_salt_4 : decode cX0_salt 4 = .ok (.iconst 0, 1) := dk_3 (dk_at dksX0_salt_0 4 rfl rfl)
theorem dX0_salt_5 : decode cX0_salt 5 = .ok (.iload_n 1, 1) := dk_27 (dk_at dksX0_salt_0 5 rfl rfl)
theorem dX0_salt_6 : decode cX0_salt 6 = .ok (.invokestatic 24, 3) := dk_184 0 24 (dk_at dksX0_salt_0 6 rfl rfl)
theorem dX0_salt_9 : decode cX0_salt 9 = .ok (.aload_n 0, 1) := dk_42 (dk_at dksX0_salt_0 9 rfl rfl)
theorem dX0_salt_10 : decode cX0_salt 10 = .ok (.getfield 17, 3) := dk_180 0 17 (dk_at dksX0_salt_0 10 rfl rfl)
theorem dX0_salt_13 : decode cX0_salt 13 = .ok (.iconst 4, 1) := dk_7 (dk_at dksX0_salt_0 13 rfl rfl)
theorem dX0_salt_14 : decode cX0_salt 14 = .ok (.iload_n 2, 1) := dk_28 (dk_at dksX0_salt_0 14 rfl rfl)
theorem dX0_salt_15 : decode cX0_salt 15 = .ok (.invokestatic 24, 3) := dk_184 0 24 (dk_at dksX0_salt_0 15 rfl rfl)
theorem dX0_salt_18 : decode cX0_salt 18 = .ok (.aload_n 0, 1) := dk_42 (dk_at dksX0_salt_0 18 rfl rfl)
theorem dX0_salt_19 : decode cX0_salt 19 = .ok (.getfield 17, 3) := dk_180 0 17 (dk_at dksX0_salt_0 19 rfl rfl)
theorem dX0_salt_22 : decode cX0_salt 22 = .ok (.bipush 8, 2) := dk_16 8 (dk_at dksX0_salt_0 22 rfl rfl)
theorem dX0_salt_24 : decode cX0_salt 24 = .ok (.iload_n 3, 1) := dk_29 (dk_at dksX0_salt_1 0 rfl rfl)
theorem dX0_salt_25 : decode cX0_salt 25 = .ok (.invokestatic 24, 3) := dk_184 0 24 (dk_at dksX0_salt_1 1 rfl rfl)
theorem dX0_salt_28 : decode cX0_salt 28 = .ok (.aload_n 0, 1) := dk_42 (dk_at dksX0_salt_1 4 rfl rfl)
theorem dX0_salt_29 : decode cX0_salt 29 = .ok (.getfield 17, 3) := dk_180 0 17 (dk_at dksX0_salt_1 5 rfl rfl)
theorem dX0_salt_32 : decode cX0_salt 32 = .ok (.bipush 12, 2) := dk_16 12 (dk_at dksX0_salt_1 8 rfl rfl)
theorem dX0_salt_34 : decode cX0_salt 34 = .ok (.iload 4, 2) := dk_21 4 (dk_at dksX0_salt_1 10 rfl rfl)
theorem dX0_salt_36 : decode cX0_salt 36 = .ok (.invokestatic 24, 3) := dk_184 0 24 (dk_at dksX0_salt_1 12 rfl rfl)
theorem dX0_salt_39 : decode cX0_salt 39 = .ok (.return_, 1) := dk_177 (dk_at dksX0_salt_1 15 rfl rfl)
abbrev cX0_hash : ByteArray := prog_2_method_6_code
def yX0_hash : MethodName := ⟨RX0, "hash", "(I)V"⟩
def dkwX0_hash_2 : List UInt8 := [181, 0, 20, 177]
abbrev dktX0_hash_2 : List UInt8 := dkwX0_hash_2 ++ []
def dkwX0_hash_1 : List UInt8 := [51, 84, 132, 3, 1, 167, 255, 236, 42, 44, 42, 180, 0, 17, 7, 27, 4, 126, 96, 3, 184, 0, 28]
abbrev dktX0_hash_1 : List UInt8 := dkwX0_hash_1 ++ dktX0_hash_2
def dkwX0_hash_0 : List UInt8 := [42, 180, 0, 13, 188, 8, 77, 3, 62, 29, 42, 180, 0, 13, 162, 0, 18, 44, 29, 42, 180, 0, 7, 29]
abbrev dktX0_hash_0 : List UInt8 := dkwX0_hash_0 ++ dktX0_hash_1
theorem dksX0_hash_0 : cX0_hash.data.toList.drop 0 = dktX0_hash_0 := by decide +kernel
theorem dksX0_hash_1 : cX0_hash.data.toList.drop 24 = dktX0_hash_1 := dk_seg dksX0_hash_0 24 rfl rfl
theorem dksX0_hash_2 : cX0_hash.data.toList.drop 47 = dktX0_hash_2 := dk_seg dksX0_hash_1 23 rfl rfl
theorem dX0_hash_0 : decode cX0_hash 0 = .ok (.aload_n 0, 1) := dk_42 (dk_at dksX0_hash_0 0 rfl rfl)
theorem dX0_hash_1 : decode cX0_hash 1 = .ok (.getfield 13, 3) := dk_180 0 13 (dk_at dksX0_hash_0 1 rfl rfl)
theorem dX0_hash_4 : decode cX0_hash 4 = .ok (.newarray .byte, 2) := dk_188_8 (dk_at dksX0_hash_0 4 rfl rfl)
theorem dX0_hash_6 : decode cX0_hash 6 = .ok (.astore_n 2, 1) := dk_77 (dk_at dksX0_hash_0 6 rfl rfl)
theorem dX0_hash_7 : decode cX0_hash 7 = .ok (.iconst 0, 1) := dk_3 (dk_at dksX0_hash_0 7 rfl rfl)
theorem dX0_hash_8 : decode cX0_hash 8 = .ok (.istore_n 3, 1) := dk_62 (dk_at dksX0_hash_0 8 rfl rfl)
theorem dX0_hash_9 : decode cX0_hash 9 = .ok (.iload_n 3, 1) := dk_29 (dk_at dksX0_hash_0 9 rfl rfl)
theorem dX0_hash_10 : decode cX0_hash 10 = .ok (.aload_n 0, 1) := dk_42 (dk_at dksX0_hash_0 10 rfl rfl)
theorem dX0_hash_11 : decode cX0_hash 11 = .ok (.getfield 13, 3) := dk_180 0 13 (dk_at dksX0_hash_0 11 rfl rfl)
theorem dX0_hash_14 : decode cX0_hash 14 = .ok (.if_icmp .ge 18, 3) := dk_162 0 18 (dk_at dksX0_hash_0 14 rfl rfl)
theorem dX0_hash_17 : decode cX0_hash 17 = .ok (.aload_n 2, 1) := dk_44 (dk_at dksX0_hash_0 17 rfl rfl)
theorem dX0_hash_18 : decode cX0_hash 18 = .ok (.iload_n 3, 1) := dk_29 (dk_at dksX0_hash_0 18 rfl rfl)
theorem dX0_hash_19 : decode cX0_hash 19 = .ok (.aload_n 0, 1) := dk_42 (dk_at dksX0_hash_0 19 rfl rfl)
theorem dX0_hash_20 : decode cX0_hash 20 = .ok (.getfield 7, 3) := dk_180 0 7 (dk_at dksX0_hash_0 20 rfl rfl)
theorem dX0_hash_23 : decode cX0_hash 23 = .ok (.iload_n 3, 1) := dk_29 (dk_at dksX0_hash_0 23 rfl rfl)
theorem dX0_hash_24 : decode cX0_hash 24 = .ok (.baload, 1) := dk_51 (dk_at dksX0_hash_1 0 rfl rfl)
theorem dX0_hash_25 : decode cX0_hash 25 = .ok (.bastore, 1) := dk_84 (dk_at dksX0_hash_1 1 rfl rfl)
theorem dX0_hash_26 : decode cX0_hash 26 = .ok (.iinc 3 1, 3) := dk_132 3 1 (dk_at dksX0_hash_1 2 rfl rfl)
theorem dX0_hash_29 : decode cX0_hash 29 = .ok (.goto (-20), 3) := dk_167 255 236 (dk_at dksX0_hash_1 5 rfl rfl)
theorem dX0_hash_32 : decode cX0_hash 32 = .ok (.aload_n 0, 1) := dk_42 (dk_at dksX0_hash_1 8 rfl rfl)
theorem dX0_hash_33 : decode cX0_hash 33 = .ok (.aload_n 2, 1) := dk_44 (dk_at dksX0_hash_1 9 rfl rfl)
theorem dX0_hash_34 : decode cX0_hash 34 = .ok (.aload_n 0, 1) := dk_42 (dk_at dksX0_hash_1 10 rfl rfl)
theorem dX0_hash_35 : decode cX0_hash 35 = .ok (.getfield 17, 3) := dk_180 0 17 (dk_at dksX0_hash_1 11 rfl rfl)
theorem dX0_hash_38 : decode cX0_hash 38 = .ok (.iconst 4, 1) := dk_7 (dk_at dksX0_hash_1 14 rfl rfl)
theorem dX0_hash_39 : decode cX0_hash 39 = .ok (.iload_n 1, 1) := dk_27 (dk_at dksX0_hash_1 15 rfl rfl)
theorem dX0_hash_40 : decode cX0_hash 40 = .ok (.iconst 1, 1) := dk_4 (dk_at dksX0_hash_1 16 rfl rfl)
theorem dX0_hash_41 : decode cX0_hash 41 = .ok (.iand, 1) := dk_126 (dk_at dksX0_hash_1 17 rfl rfl)
theorem dX0_hash_42 : decode cX0_hash 42 = .ok (.iadd, 1) := dk_96 (dk_at dksX0_hash_1 18 rfl rfl)
theorem dX0_hash_43 : decode cX0_hash 43 = .ok (.iconst 0, 1) := dk_3 (dk_at dksX0_hash_1 19 rfl rfl)
theorem dX0_hash_44 : decode cX0_hash 44 = .ok (.invokestatic 28, 3) := dk_184 0 28 (dk_at dksX0_hash_1 20 rfl rfl)
theorem dX0_hash_47 : decode cX0_hash 47 = .ok (.putfield 20, 3) := dk_181 0 20 (dk_at dksX0_hash_2 0 rfl rfl)
theorem dX0_hash_50 : decode cX0_hash 50 = .ok (.return_, 1) := dk_177 (dk_at dksX0_hash_2 3 rfl rfl)
abbrev cX0_out : ByteArray := prog_2_method_7_code
def yX0_out : MethodName := ⟨RX0, "out", "(I)I"⟩
def dkwX0_out_0 : List UInt8 := [42, 180, 0, 20, 27, 18, 23, 126, 16, 24, 112, 51, 17, 0, 255, 126, 172]
abbrev dktX0_out_0 : List UInt8 := dkwX0_out_0 ++ []
theorem dksX0_out_0 : cX0_out.data.toList.drop 0 = dktX0_out_0 := by decide +kernel
theorem dX0_out_0 : decode cX0_out 0 = .ok (.aload_n 0, 1) := dk_42 (dk_at dksX0_out_0 0 rfl rfl)
theorem dX0_out_1 : decode cX0_out 1 = .ok (.getfield 20, 3) := dk_180 0 20 (dk_at dksX0_out_0 1 rfl rfl)
theorem dX0_out_4 : decode cX0_out 4 = .ok (.iload_n 1, 1) := dk_27 (dk_at dksX0_out_0 4 rfl rfl)
theorem dX0_out_5 : decode cX0_out 5 = .ok (.ldc 23, 2) := dk_18 23 (dk_at dksX0_out_0 5 rfl rfl)
theorem dX0_out_7 : decode cX0_out 7 = .ok (.iand, 1) := dk_126 (dk_at dksX0_out_0 7 rfl rfl)
theorem dX0_out_8 : decode cX0_out 8 = .ok (.bipush 24, 2) := dk_16 24 (dk_at dksX0_out_0 8 rfl rfl)
theorem dX0_out_10 : decode cX0_out 10 = .ok (.irem, 1) := dk_112 (dk_at dksX0_out_0 10 rfl rfl)
theorem dX0_out_11 : decode cX0_out 11 = .ok (.baload, 1) := dk_51 (dk_at dksX0_out_0 11 rfl rfl)
theorem dX0_out_12 : decode cX0_out 12 = .ok (.sipush 255, 3) := dk_17 0 255 (dk_at dksX0_out_0 12 rfl rfl)
theorem dX0_out_15 : decode cX0_out 15 = .ok (.iand, 1) := dk_126 (dk_at dksX0_out_0 15 rfl rfl)
theorem dX0_out_16 : decode cX0_out 16 = .ok (.ireturn, 1) := dk_172 (dk_at dksX0_out_0 16 rfl rfl)
theorem q11 : (Jvm.Cond.initialized "CryptDesk") ∈ lw_all := lw_g (lw_at lw_m1 1 rfl) rfl
theorem q25 : (Jvm.Cond.instantiable "CryptDesk" (4 : Nat)) ∈ lw_all := lw_g (lw_at lw_m1 15 rfl) rfl
theorem q27 : (Jvm.Cond.instanceMethod ({ cls := "CryptDesk", name := "<init>", desc := "()V" } : Jvm.MethodName)) ∈ lw_all := lw_g (lw_at lw_m1 17 rfl) rfl
theorem q28 : (Jvm.Cond.code ({ cls := "CryptDesk", name := "<init>", desc := "()V" } : Jvm.MethodName) prog_2_method_1_code (1 : Nat) (Option.none : Option Jvm.ClassFile.FieldType)) ∈ lw_all := lw_g (lw_at lw_m1 18 rfl) rfl
theorem q29 : (Jvm.Cond.methodLink "CryptDesk" (1 : Nat) ({ cls := "java/lang/Object", name := "<init>", desc := "()V" } : Jvm.MethodName)) ∈ lw_all := lw_g (lw_at lw_m1 19 rfl) rfl
theorem q32 : (Jvm.Cond.fieldLink "CryptDesk" (7 : Nat) "CryptDesk" "word" "[B") ∈ lw_all := lw_g (lw_at lw_m1 22 rfl) rfl
theorem q33 : (Jvm.Cond.fieldLink "CryptDesk" (13 : Nat) "CryptDesk" "size" "I") ∈ lw_all := lw_g (lw_at lw_m1 23 rfl) rfl
theorem q34 : (Jvm.Cond.fieldLink "CryptDesk" (17 : Nat) "CryptDesk" "salt" "[B") ∈ lw_all := lw_g (lw_at lw_m1 24 rfl) rfl
theorem q35 : (Jvm.Cond.fieldLink "CryptDesk" (20 : Nat) "CryptDesk" "out" "[B") ∈ lw_all := lw_g (lw_at lw_m1 25 rfl) rfl
theorem q36 : (Jvm.Cond.laysFinal "CryptDesk" "CryptDesk" "word" "[B") ∈ lw_all := lw_g (lw_at lw_m1 26 rfl) rfl
theorem q37 : (Jvm.Cond.soleField "CryptDesk" "word") ∈ lw_all := lw_g (lw_at lw_m1 27 rfl) rfl
theorem q38 : (Jvm.Cond.lays "CryptDesk" "CryptDesk" "size" "I") ∈ lw_all := lw_g (lw_at lw_m1 28 rfl) rfl
theorem q39 : (Jvm.Cond.soleField "CryptDesk" "size") ∈ lw_all := lw_g (lw_at lw_m1 29 rfl) rfl
theorem q40 : (Jvm.Cond.laysFinal "CryptDesk" "CryptDesk" "salt" "[B") ∈ lw_all := lw_g (lw_at lw_m1 30 rfl) rfl
theorem q41 : (Jvm.Cond.soleField "CryptDesk" "salt") ∈ lw_all := lw_g (lw_at lw_m1 31 rfl) rfl
theorem q42 : (Jvm.Cond.lays "CryptDesk" "CryptDesk" "out" "[B") ∈ lw_all := lw_g (lw_at lw_m1 32 rfl) rfl
theorem q43 : (Jvm.Cond.soleField "CryptDesk" "out") ∈ lw_all := lw_g (lw_at lw_m1 33 rfl) rfl
theorem q44 : (Jvm.Cond.superclass "CryptDesk" "java/lang/Object") ∈ lw_all := lw_g (lw_at lw_m1 34 rfl) rfl
theorem q47 : (Jvm.Cond.instanceMethod ({ cls := "CryptDesk", name := "word", desc := "(IIII)V" } : Jvm.MethodName)) ∈ lw_all := lw_g (lw_at lw_m1 37 rfl) rfl
theorem q48 : (Jvm.Cond.selects "CryptDesk" ({ cls := "CryptDesk", name := "word", desc := "(IIII)V" } : Jvm.MethodName) ({ cls := "CryptDesk", name := "word", desc := "(IIII)V" } : Jvm.MethodName)) ∈ lw_all := lw_g (lw_at lw_m1 38 rfl) rfl
theorem q49 : (Jvm.Cond.code ({ cls := "CryptDesk", name := "word", desc := "(IIII)V" } : Jvm.MethodName) prog_2_method_3_code (6 : Nat) (Option.none : Option Jvm.ClassFile.FieldType)) ∈ lw_all := lw_g (lw_at lw_m1 39 rfl) rfl
theorem q50 : (Jvm.Cond.constant "CryptDesk" (23 : Nat) (2147483647 : Int32)) ∈ lw_all := lw_g (lw_at lw_m1 40 rfl) rfl
theorem q51 : (Jvm.Cond.methodLink "CryptDesk" (24 : Nat) ({ cls := "CryptDesk", name := "lay", desc := "([BII)V" } : Jvm.MethodName)) ∈ lw_all := lw_g (lw_at lw_m1 41 rfl) rfl
theorem q52 : (Jvm.Cond.static ({ cls := "CryptDesk", name := "lay", desc := "([BII)V" } : Jvm.MethodName)) ∈ lw_all := lw_g (lw_at lw_m1 42 rfl) rfl
theorem q53 : (Jvm.Cond.code ({ cls := "CryptDesk", name := "lay", desc := "([BII)V" } : Jvm.MethodName) prog_2_method_2_code (3 : Nat) (Option.none : Option Jvm.ClassFile.FieldType)) ∈ lw_all := lw_g (lw_at lw_m1 43 rfl) rfl
theorem q55 : (Jvm.Cond.instanceMethod ({ cls := "CryptDesk", name := "cut", desc := "(I)V" } : Jvm.MethodName)) ∈ lw_all := lw_g (lw_at lw_m1 45 rfl) rfl
theorem q56 : (Jvm.Cond.selects "CryptDesk" ({ cls := "CryptDesk", name := "cut", desc := "(I)V" } : Jvm.MethodName) ({ cls := "CryptDesk", name := "cut", desc := "(I)V" } : Jvm.MethodName)) ∈ lw_all := lw_g (lw_at lw_m1 46 rfl) rfl
theorem q57 : (Jvm.Cond.code ({ cls := "CryptDesk", name := "cut", desc := "(I)V" } : Jvm.MethodName) prog_2_method_4_code (2 : Nat) (Option.none : Option Jvm.ClassFile.FieldType)) ∈ lw_all := lw_g (lw_at lw_m1 47 rfl) rfl
theorem q59 : (Jvm.Cond.instanceMethod ({ cls := "CryptDesk", name := "salt", desc := "(IIII)V" } : Jvm.MethodName)) ∈ lw_all := lw_g (lw_at lw_m1 49 rfl) rfl
theorem q60 : (Jvm.Cond.selects "CryptDesk" ({ cls := "CryptDesk", name := "salt", desc := "(IIII)V" } : Jvm.MethodName) ({ cls := "CryptDesk", name := "salt", desc := "(IIII)V" } : Jvm.MethodName)) ∈ lw_all := lw_g (lw_at lw_m1 50 rfl) rfl
theorem q61 : (Jvm.Cond.code ({ cls := "CryptDesk", name := "salt", desc := "(IIII)V" } : Jvm.MethodName) prog_2_method_5_code (5 : Nat) (Option.none : Option Jvm.ClassFile.FieldType)) ∈ lw_all := lw_g (lw_at lw_m1 51 rfl) rfl
theorem q63 : (Jvm.Cond.instanceMethod ({ cls := "CryptDesk", name := "hash", desc := "(I)V" } : Jvm.MethodName)) ∈ lw_all := lw_g (lw_at lw_m1 53 rfl) rfl
theorem q64 : (Jvm.Cond.selects "CryptDesk" ({ cls := "CryptDesk", name := "hash", desc := "(I)V" } : Jvm.MethodName) ({ cls := "CryptDesk", name := "hash", desc := "(I)V" } : Jvm.MethodName)) ∈ lw_all := lw_g (lw_at lw_m1 54 rfl) rfl
theorem q65 : (Jvm.Cond.code ({ cls := "CryptDesk", name := "hash", desc := "(I)V" } : Jvm.MethodName) prog_2_method_6_code (4 : Nat) (Option.none : Option Jvm.ClassFile.FieldType)) ∈ lw_all := lw_g (lw_at lw_m1 55 rfl) rfl
theorem q66 : (Jvm.Cond.methodLink "CryptDesk" (28 : Nat) ({ cls := "BCrypt", name := "generate", desc := "([B[BIZ)[B" } : Jvm.MethodName)) ∈ lw_all := lw_g (lw_at lw_m1 56 rfl) rfl
theorem q239 : (Jvm.Cond.instanceMethod ({ cls := "CryptDesk", name := "out", desc := "(I)I" } : Jvm.MethodName)) ∈ lw_all := lw_g (lw_at lw_m1 229 rfl) rfl
theorem q240 : (Jvm.Cond.selects "CryptDesk" ({ cls := "CryptDesk", name := "out", desc := "(I)I" } : Jvm.MethodName) ({ cls := "CryptDesk", name := "out", desc := "(I)I" } : Jvm.MethodName)) ∈ lw_all := lw_g (lw_at lw_m1 230 rfl) rfl
theorem q241 : (Jvm.Cond.code ({ cls := "CryptDesk", name := "out", desc := "(I)I" } : Jvm.MethodName) prog_2_method_7_code (2 : Nat) (Option.some Jvm.ClassFile.FieldType.int)) ∈ lw_all := lw_g (lw_at lw_m1 231 rfl) rfl
theorem in_X0 : ∀ w ∈ wsX00, w ∈ lw_all := lw_in wsX00 [36, 38, 40, 42] (by decide +kernel) (by decide +kernel)
/-! OwnArrays -/
set_option maxRecDepth 100000
def RX3 : String := "OwnArrays"
abbrev cX3_append : ByteArray := prog_6_method_2_code
def yX3_append : MethodName := ⟨RX3, "append", "([BB)[B"⟩
def dkwX3_append_1 : List UInt8 := [3, 28, 184, 0, 7, 45, 28, 27, 84, 45, 176]
abbrev dktX3_append_1 : List UInt8 := dkwX3_append_1 ++ []
def dkwX3_append_0 : List UInt8 := [42, 199, 0, 11, 4, 188, 8, 89, 3, 27, 84, 176, 42, 190, 61, 28, 4, 96, 188, 8, 78, 42, 3, 45]
abbrev dktX3_append_0 : List UInt8 := dkwX3_append_0 ++ dktX3_append_1
theorem dksX3_append_0 : cX3_append.data.toList.drop 0 = dktX3_append_0 := by decide +kernel
theorem dksX3_append_1 : cX3_append.data.toList.drop 24 = dktX3_append_1 := dk_seg dksX3_append_0 24 rfl rfl
theorem dX3_append_0 : decode cX3_append 0 = .ok (.aload_n 0, 1) := dk_42 (dk_at dksX3_append_0 0 rfl rfl)
theorem dX3_append_1 : decode cX3_append 1 = .ok (.ifnonnull 11, 3) := dk_199 0 11 (dk_at dksX3_append_0 1 rfl rfl)
theorem dX3_append_4 : decode cX3_append 4 = .ok (.iconst 1, 1) := dk_4 (dk_at dksX3_append_0 4 rfl rfl)
theorem dX3_append_5 : decode cX3_append 5 = .ok (.newarray .byte, 2) := dk_188_8 (dk_at dksX3_append_0 5 rfl rfl)
theorem dX3_append_7 : decode cX3_append 7 = .ok (.dup, 1) := dk_89 (dk_at dksX3_append_0 7 rfl rfl)
theorem dX3_append_8 : decode cX3_append 8 = .ok (.iconst 0, 1) := dk_3 (dk_at dksX3_append_0 8 rfl rfl)
theorem dX3_append_9 : decode cX3_append 9 = .ok (.iload_n 1, 1) := dk_27 (dk_at dksX3_append_0 9 rfl rfl)
theorem dX3_append_10 : decode cX3_append 10 = .ok (.bastore, 1) := dk_84 (dk_at dksX3_append_0 10 rfl rfl)
theorem dX3_append_11 : decode cX3_append 11 = .ok (.areturn, 1) := dk_176 (dk_at dksX3_append_0 11 rfl rfl)
theorem dX3_append_12 : decode cX3_append 12 = .ok (.aload_n 0, 1) := dk_42 (dk_at dksX3_append_0 12 rfl rfl)
theorem dX3_append_13 : decode cX3_append 13 = .ok (.arraylength, 1) := dk_190 (dk_at dksX3_append_0 13 rfl rfl)
theorem dX3_append_14 : decode cX3_append 14 = .ok (.istore_n 2, 1) := dk_61 (dk_at dksX3_append_0 14 rfl rfl)
theorem dX3_append_15 : decode cX3_append 15 = .ok (.iload_n 2, 1) := dk_28 (dk_at dksX3_append_0 15 rfl rfl)
theorem dX3_append_16 : decode cX3_append 16 = .ok (.iconst 1, 1) := dk_4 (dk_at dksX3_append_0 16 rfl rfl)
theorem dX3_append_17 : decode cX3_append 17 = .ok (.iadd, 1) := dk_96 (dk_at dksX3_append_0 17 rfl rfl)
theorem dX3_append_18 : decode cX3_append 18 = .ok (.newarray .byte, 2) := dk_188_8 (dk_at dksX3_append_0 18 rfl rfl)
theorem dX3_append_20 : decode cX3_append 20 = .ok (.astore_n 3, 1) := dk_78 (dk_at dksX3_append_0 20 rfl rfl)
theorem dX3_append_21 : decode cX3_append 21 = .ok (.aload_n 0, 1) := dk_42 (dk_at dksX3_append_0 21 rfl rfl)
theorem dX3_append_22 : decode cX3_append 22 = .ok (.iconst 0, 1) := dk_3 (dk_at dksX3_append_0 22 rfl rfl)
theorem dX3_append_23 : decode cX3_append 23 = .ok (.aload_n 3, 1) := dk_45 (dk_at dksX3_append_0 23 rfl rfl)
theorem dX3_append_24 : decode cX3_append 24 = .ok (.iconst 0, 1) := dk_3 (dk_at dksX3_append_1 0 rfl rfl)
theorem dX3_append_25 : decode cX3_append 25 = .ok (.iload_n 2, 1) := dk_28 (dk_at dksX3_append_1 1 rfl rfl)
theorem dX3_append_26 : decode cX3_append 26 = .ok (.invokestatic 7, 3) := dk_184 0 7 (dk_at dksX3_append_1 2 rfl rfl)
theorem dX3_append_29 : decode cX3_append 29 = .ok (.aload_n 3, 1) := dk_45 (dk_at dksX3_append_1 5 rfl rfl)
theorem dX3_append_30 : decode cX3_append 30 = .ok (.iload_n 2, 1) := dk_28 (dk_at dksX3_append_1 6 rfl rfl)
theorem dX3_append_31 : decode cX3_append 31 = .ok (.iload_n 1, 1) := dk_27 (dk_at dksX3_append_1 7 rfl rfl)
theorem dX3_append_32 : decode cX3_append 32 = .ok (.bastore, 1) := dk_84 (dk_at dksX3_append_1 8 rfl rfl)
theorem dX3_append_33 : decode cX3_append 33 = .ok (.aload_n 3, 1) := dk_45 (dk_at dksX3_append_1 9 rfl rfl)
theorem dX3_append_34 : decode cX3_append 34 = .ok (.areturn, 1) := dk_176 (dk_at dksX3_append_1 10 rfl rfl)
abbrev cX3_fill : ByteArray := prog_6_method_1_code
def yX3_fill : MethodName := ⟨RX3, "fill", "([II)V"⟩
def dkwX3_fill_0 : List UInt8 := [42, 27, 184, 0, 1, 177]
abbrev dktX3_fill_0 : List UInt8 := dkwX3_fill_0 ++ []
theorem dksX3_fill_0 : cX3_fill.data.toList.drop 0 = dktX3_fill_0 := by decide +kernel
theorem dX3_fill_0 : decode cX3_fill 0 = .ok (.aload_n 0, 1) := dk_42 (dk_at dksX3_fill_0 0 rfl rfl)
theorem dX3_fill_1 : decode cX3_fill 1 = .ok (.iload_n 1, 1) := dk_27 (dk_at dksX3_fill_0 1 rfl rfl)
theorem dX3_fill_2 : decode cX3_fill 2 = .ok (.invokestatic 1, 3) := dk_184 0 1 (dk_at dksX3_fill_0 2 rfl rfl)
theorem dX3_fill_5 : decode cX3_fill 5 = .ok (.return_, 1) := dk_177 (dk_at dksX3_fill_0 5 rfl rfl)
theorem q18 : (Jvm.Cond.initialized "OwnArrays") ∈ lw_all := lw_g (lw_at lw_m1 8 rfl) rfl
theorem q139 : (Jvm.Cond.static ({ cls := "OwnArrays", name := "append", desc := "([BB)[B" } : Jvm.MethodName)) ∈ lw_all := lw_g (lw_at lw_m1 129 rfl) rfl
theorem q140 : (Jvm.Cond.code ({ cls := "OwnArrays", name := "append", desc := "([BB)[B" } : Jvm.MethodName) prog_6_method_2_code (4 : Nat) (Option.some (Jvm.ClassFile.FieldType.array Jvm.ClassFile.FieldType.byte))) ∈ lw_all := lw_g (lw_at lw_m1 130 rfl) rfl
theorem q141 : (Jvm.Cond.methodLink "OwnArrays" (7 : Nat) ({ cls := "java/lang/System", name := "arraycopy", desc := "(Ljava/lang/Object;ILjava/lang/Object;II)V" } : Jvm.MethodName)) ∈ lw_all := lw_g (lw_at lw_m1 131 rfl) rfl
theorem q217 : (Jvm.Cond.static ({ cls := "OwnArrays", name := "fill", desc := "([II)V" } : Jvm.MethodName)) ∈ lw_all := lw_g (lw_at lw_m1 207 rfl) rfl
theorem q218 : (Jvm.Cond.code ({ cls := "OwnArrays", name := "fill", desc := "([II)V" } : Jvm.MethodName) prog_6_method_1_code (2 : Nat) (Option.none : Option Jvm.ClassFile.FieldType)) ∈ lw_all := lw_g (lw_at lw_m1 208 rfl) rfl
theorem q219 : (Jvm.Cond.methodLink "OwnArrays" (1 : Nat) ({ cls := "java/util/Arrays", name := "fill", desc := "([II)V" } : Jvm.MethodName)) ∈ lw_all := lw_g (lw_at lw_m1 209 rfl) rfl
/-! Pack -/
set_option maxRecDepth 100000
def RX6 : String := "Pack"
abbrev cX6_bigEndianToInt : ByteArray := prog_7_method_3_code
def yX6_bigEndianToInt : MethodName := ⟨RX6, "bigEndianToInt", "([BI[I)V"⟩
def dkwX6_bigEndianToInt_1 : List UInt8 := [167, 255, 236, 177]
abbrev dktX6_bigEndianToInt_1 : List UInt8 := dkwX6_bigEndianToInt_1 ++ []
def dkwX6_bigEndianToInt_0 : List UInt8 := [3, 62, 29, 44, 190, 162, 0, 20, 44, 29, 42, 27, 184, 0, 7, 79, 132, 1, 4, 132, 3, 1]
abbrev dktX6_bigEndianToInt_0 : List UInt8 := dkwX6_bigEndianToInt_0 ++ dktX6_bigEndianToInt_1
theorem dksX6_bigEndianToInt_0 : cX6_bigEndianToInt.data.toList.drop 0 = dktX6_bigEndianToInt_0 := by decide +kernel
theorem dksX6_bigEndianToInt_1 : cX6_bigEndianToInt.data.toList.drop 22 = dktX6_bigEndianToInt_1 := dk_seg dksX6_bigEndianToInt_0 22 rfl rfl
theorem dX6_bigEndianToInt_0 : decode cX6_bigEndianToInt 0 = .ok (.iconst 0, 1) := dk_3 (dk_at dksX6_bigEndianToInt_0 0 rfl rfl)
theorem dX6_bigEndianToInt_1 : decode cX6_bigEndianToInt 1 = .ok (.istore_n 3, 1) := dk_62 (dk_at dksX6_bigEndianToInt_0 1 rfl rfl)
theorem dX6_bigEndianToInt_2 : decode cX6_bigEndianToInt 2 = .ok (.iload_n 3, 1) := dk_29 (dk_at dksX6_bigEndianToInt_0 2 rfl rfl)
theorem dX6_bigEndianToInt_3 : decode cX6_bigEndianToInt 3 = .ok (.aload_n 2, 1) := dk_44 (dk_at dksX6_bigEndianToInt_0 3 rfl rfl)
theorem dX6_bigEndianToInt_4 : decode cX6_bigEndianToInt 4 = .ok (.arraylength, 1) := dk_190 (dk_at dksX6_bigEndianToInt_0 4 rfl rfl)
theorem dX6_bigEndianToInt_5 : decode cX6_bigEndianToInt 5 = .ok (.if_icmp .ge 20, 3) := dk_162 0 20 (dk_at dksX6_bigEndianToInt_0 5 rfl rfl)
theorem dX6_bigEndianToInt_8 : decode cX6_bigEndianToInt 8 = .ok (.aload_n 2, 1) := dk_44 (dk_at dksX6_bigEndianToInt_0 8 rfl rfl)
theorem dX6_bigEndianToInt_9 : decode cX6_bigEndianToInt 9 = .ok (.iload_n 3, 1) := dk_29 (dk_at dksX6_bigEndianToInt_0 9 rfl rfl)
theorem dX6_bigEndianToInt_10 : decode cX6_bigEndianToInt 10 = .ok (.aload_n 0, 1) := dk_42 (dk_at dksX6_bigEndianToInt_0 10 rfl rfl)
theorem dX6_bigEndianToInt_11 : decode cX6_bigEndianToInt 11 = .ok (.iload_n 1, 1) := dk_27 (dk_at dksX6_bigEndianToInt_0 11 rfl rfl)
theorem dX6_bigEndianToInt_12 : decode cX6_bigEndianToInt 12 = .ok (.invokestatic 7, 3) := dk_184 0 7 (dk_at dksX6_bigEndianToInt_0 12 rfl rfl)
theorem dX6_bigEndianToInt_15 : decode cX6_bigEndianToInt 15 = .ok (.iastore, 1) := dk_79 (dk_at dksX6_bigEndianToInt_0 15 rfl rfl)
theorem dX6_bigEndianToInt_16 : decode cX6_bigEndianToInt 16 = .ok (.iinc 1 4, 3) := dk_132 1 4 (dk_at dksX6_bigEndianToInt_0 16 rfl rfl)
theorem dX6_bigEndianToInt_19 : decode cX6_bigEndianToInt 19 = .ok (.iinc 3 1, 3) := dk_132 3 1 (dk_at dksX6_bigEndianToInt_0 19 rfl rfl)
theorem dX6_bigEndianToInt_22 : decode cX6_bigEndianToInt 22 = .ok (.goto (-20), 3) := dk_167 255 236 (dk_at dksX6_bigEndianToInt_1 0 rfl rfl)
theorem dX6_bigEndianToInt_25 : decode cX6_bigEndianToInt 25 = .ok (.return_, 1) := dk_177 (dk_at dksX6_bigEndianToInt_1 3 rfl rfl)
abbrev cX6_bigEndianToInt_2 : ByteArray := prog_7_method_2_code
def yX6_bigEndianToInt_2 : MethodName := ⟨RX6, "bigEndianToInt", "([BI)I"⟩
def dkwX6_bigEndianToInt_2_2 : List UInt8 := [17, 0, 255, 126, 128, 61, 28, 172]
abbrev dktX6_bigEndianToInt_2_2 : List UInt8 := dkwX6_bigEndianToInt_2_2 ++ []
def dkwX6_bigEndianToInt_2_1 : List UInt8 := [42, 132, 1, 1, 27, 51, 17, 0, 255, 126, 16, 8, 120, 128, 61, 28, 42, 132, 1, 1, 27, 51]
abbrev dktX6_bigEndianToInt_2_1 : List UInt8 := dkwX6_bigEndianToInt_2_1 ++ dktX6_bigEndianToInt_2_2
def dkwX6_bigEndianToInt_2_0 : List UInt8 := [42, 27, 51, 16, 24, 120, 61, 28, 42, 132, 1, 1, 27, 51, 17, 0, 255, 126, 16, 16, 120, 128, 61, 28]
abbrev dktX6_bigEndianToInt_2_0 : List UInt8 := dkwX6_bigEndianToInt_2_0 ++ dktX6_bigEndianToInt_2_1
theorem dksX6_bigEndianToInt_2_0 : cX6_bigEndianToInt_2.data.toList.drop 0 = dktX6_bigEndianToInt_2_0 := by decide +kernel
theorem dksX6_bigEndianToInt_2_1 : cX6_bigEndianToInt_2.data.toList.drop 24 = dktX6_bigEndianToInt_2_1 := dk_seg dksX6_bigEndianToInt_2_0 24 rfl rfl
theorem dksX6_bigEndianToInt_2_2 : cX6_bigEndianToInt_2.data.toList.drop 46 = dktX6_bigEndianToInt_2_2 := dk_seg dksX6_bigEndianToInt_2_1 22 rfl rfl
theorem dX6_bigEndianToInt_2_0 : decode cX6_bigEndianToInt_2 0 = .ok (.aload_n 0, 1) := dk_42 (dk_at dksX6_bigEndianToInt_2_0 0 rfl rfl)
theorem dX6_bigEndianToInt_2_1 : decode cX6_bigEndianToInt_2 1 = .ok (.iload_n 1, 1) := dk_27 (dk_at dksX6_bigEndianToInt_2_0 1 rfl rfl)
theorem dX6_bigEndianToInt_2_2 : decode cX6_bigEndianToInt_2 2 = .ok (.baload, 1) := dk_51 (dk_at dksX6_bigEndianToInt_2_0 2 rfl rfl)
theorem dX6_bigEndianToInt_2_3 : decode cX6_bigEndianToInt_2 3 = .ok (.bipush 24, 2) := dk_16 24 (dk_at dksX6_bigEndianToInt_2_0 3 rfl rfl)
theorem dX6_bigEndianToInt_2_5 : decode cX6_bigEndianToInt_2 5 = .ok (.ishl, 1) := dk_120 (dk_at dksX6_bigEndianToInt_2_0 5 rfl rfl)
theorem dX6_bigEndianToInt_2_6 : decode cX6_bigEndianToInt_2 6 = .ok (.istore_n 2, 1) := dk_61 (dk_at dksX6_bigEndianToInt_2_0 6 rfl rfl)
theorem dX6_bigEndianToInt_2_7 : decode cX6_bigEndianToInt_2 7 = .ok (.iload_n 2, 1) := dk_28 (dk_at dksX6_bigEndianToInt_2_0 7 rfl rfl)
theorem dX6_bigEndianToInt_2_8 : decode cX6_bigEndianToInt_2 8 = .ok (.aload_n 0, 1) := dk_42 (dk_at dksX6_bigEndianToInt_2_0 8 rfl rfl)
theorem dX6_bigEndianToInt_2_9 : decode cX6_bigEndianToInt_2 9 = .ok (.iinc 1 1, 3) := dk_132 1 1 (dk_at dksX6_bigEndianToInt_2_0 9 rfl rfl)
theorem dX6_bigEndianToInt_2_12 : decode cX6_bigEndianToInt_2 12 = .ok (.iload_n 1, 1) := dk_27 (dk_at dksX6_bigEndianToInt_2_0 12 rfl rfl)
theorem dX6_bigEndianToInt_2_13 : decode cX6_bigEndianToInt_2 13 = .ok (.baload, 1) := dk_51 (dk_at dksX6_bigEndianToInt_2_0 13 rfl rfl)
theorem dX6_bigEndianToInt_2_14 : decode cX6_bigEndianToInt_2 14 = .ok (.sipush 255, 3) := dk_17 0 255 (dk_at dksX6_bigEndianToInt_2_0 14 rfl rfl)
theorem dX6_bigEndianToInt_2_17 : decode cX6_bigEndianToInt_2 17 = .ok (.iand, 1) := dk_126 (dk_at dksX6_bigEndianToInt_2_0 17 rfl rfl)
theorem dX6_bigEndianToInt_2_18 : decode cX6_bigEndianToInt_2 18 = .ok (.bipush 16, 2) := dk_16 16 (dk_at dksX6_bigEndianToInt_2_0 18 rfl rfl)
theorem dX6_bigEndianToInt_2_20 : decode cX6_bigEndianToInt_2 20 = .ok (.ishl, 1) := dk_120 (dk_at dksX6_bigEndianToInt_2_0 20 rfl rfl)
theorem dX6_bigEndianToInt_2_21 : decode cX6_bigEndianToInt_2 21 = .ok (.ior, 1) := dk_128 (dk_at dksX6_bigEndianToInt_2_0 21 rfl rfl)
theorem dX6_bigEndianToInt_2_22 : decode cX6_bigEndianToInt_2 22 = .ok (.istore_n 2, 1) := dk_61 (dk_at dksX6_bigEndianToInt_2_0 22 rfl rfl)
theorem dX6_bigEndianToInt_2_23 : decode cX6_bigEndianToInt_2 23 = .ok (.iload_n 2, 1) := dk_28 (dk_at dksX6_bigEndianToInt_2_0 23 rfl rfl)
theorem dX6_bigEndianToInt_2_24 : decode cX6_bigEndianToInt_2 24 = .ok (.aload_n 0, 1) := dk_42 (dk_at dksX6_bigEndianToInt_2_1 0 rfl rfl)
theorem dX6_bigEndianToInt_2_25 : decode cX6_bigEndianToInt_2 25 = .ok (.iinc 1 1, 3) := dk_132 1 1 (dk_at dksX6_bigEndianToInt_2_1 1 rfl rfl)
theorem dX6_bigEndianToInt_2_28 : decode cX6_bigEndianToInt_2 28 = .ok (.iload_n 1, 1) := dk_27 (dk_at dksX6_bigEndianToInt_2_1 4 rfl rfl)
theorem dX6_bigEndianToInt_2_29 : decode cX6_bigEndianToInt_2 29 = .ok (.baload, 1) := dk_51 (dk_at dksX6_bigEndianToInt_2_1 5 rfl rfl)
theorem dX6_bigEndianToInt_2_30 : decode cX6_bigEndianToInt_2 30 = .ok (.sipush 255, 3) := dk_17 0 255 (dk_at dksX6_bigEndianToInt_2_1 6 rfl rfl)
theorem dX6_bigEndianToInt_2_33 : decode cX6_bigEndianToInt_2 33 = .ok (.iand, 1) := dk_126 (dk_at dksX6_bigEndianToInt_2_1 9 rfl rfl)
theorem dX6_bigEndianToInt_2_34 : decode cX6_bigEndianToInt_2 34 = .ok (.bipush 8, 2) := dk_16 8 (dk_at dksX6_bigEndianToInt_2_1 10 rfl rfl)
theorem dX6_bigEndianToInt_2_36 : decode cX6_bigEndianToInt_2 36 = .ok (.ishl, 1) := dk_120 (dk_at dksX6_bigEndianToInt_2_1 12 rfl rfl)
theorem dX6_bigEndianToInt_2_37 : decode cX6_bigEndianToInt_2 37 = .ok (.ior, 1) := dk_128 (dk_at dksX6_bigEndianToInt_2_1 13 rfl rfl)
theorem dX6_bigEndianToInt_2_38 : decode cX6_bigEndianToInt_2 38 = .ok (.istore_n 2, 1) := dk_61 (dk_at dksX6_bigEndianToInt_2_1 14 rfl rfl)
theorem dX6_bigEndianToInt_2_39 : decode cX6_bigEndianToInt_2 39 = .ok (.iload_n 2, 1) := dk_28 (dk_at dksX6_bigEndianToInt_2_1 15 rfl rfl)
theorem dX6_bigEndianToInt_2_40 : decode cX6_bigEndianToInt_2 40 = .ok (.aload_n 0, 1) := dk_42 (dk_at dksX6_bigEndianToInt_2_1 16 rfl rfl)
theorem dX6_bigEndianToInt_2_41 : decode cX6_bigEndianToInt_2 41 = .ok (.iinc 1 1, 3) := dk_132 1 1 (dk_at dksX6_bigEndianToInt_2_1 17 rfl rfl)
theorem dX6_bigEndianToInt_2_44 : decode cX6_bigEndianToInt_2 44 = .ok (.iload_n 1, 1) := dk_27 (dk_at dksX6_bigEndianToInt_2_1 20 rfl rfl)
theorem dX6_bigEndianToInt_2_45 : decode cX6_bigEndianToInt_2 45 = .ok (.baload, 1) := dk_51 (dk_at dksX6_bigEndianToInt_2_1 21 rfl rfl)
theorem dX6_bigEndianToInt_2_46 : decode cX6_bigEndianToInt_2 46 = .ok (.sipush 255, 3) := dk_17 0 255 (dk_at dksX6_bigEndianToInt_2_2 0 rfl rfl)
theorem dX6_bigEndianToInt_2_49 : decode cX6_bigEndianToInt_2 49 = .ok (.iand, 1) := dk_126 (dk_at dksX6_bigEndianToInt_2_2 3 rfl rfl)
theorem dX6_bigEndianToInt_2_50 : decode cX6_bigEndianToInt_2 50 = .ok (.ior, 1) := dk_128 (dk_at dksX6_bigEndianToInt_2_2 4 rfl rfl)
theorem dX6_bigEndianToInt_2_51 : decode cX6_bigEndianToInt_2 51 = .ok (.istore_n 2, 1) := dk_61 (dk_at dksX6_bigEndianToInt_2_2 5 rfl rfl)
theorem dX6_bigEndianToInt_2_52 : decode cX6_bigEndianToInt_2 52 = .ok (.iload_n 2, 1) := dk_28 (dk_at dksX6_bigEndianToInt_2_2 6 rfl rfl)
theorem dX6_bigEndianToInt_2_53 : decode cX6_bigEndianToInt_2 53 = .ok (.ireturn, 1) := dk_172 (dk_at dksX6_bigEndianToInt_2_2 7 rfl rfl)
abbrev cX6_intToBigEndian : ByteArray := prog_7_method_5_code
def yX6_intToBigEndian : MethodName := ⟨RX6, "intToBigEndian", "([I[BI)V"⟩
def dkwX6_intToBigEndian_1 : List UInt8 := [167, 255, 236, 177]
abbrev dktX6_intToBigEndian_1 : List UInt8 := dkwX6_intToBigEndian_1 ++ []
def dkwX6_intToBigEndian_0 : List UInt8 := [3, 62, 29, 42, 190, 162, 0, 20, 42, 29, 46, 43, 28, 184, 0, 13, 132, 2, 4, 132, 3, 1]
abbrev dktX6_intToBigEndian_0 : List UInt8 := dkwX6_intToBigEndian_0 ++ dktX6_intToBigEndian_1
theorem dksX6_intToBigEndian_0 : cX6_intToBigEndian.data.toList.drop 0 = dktX6_intToBigEndian_0 := by decide +kernel
theorem dksX6_intToBigEndian_1 : cX6_intToBigEndian.data.toList.drop 22 = dktX6_intToBigEndian_1 := dk_seg dksX6_intToBigEndian_0 22 rfl rfl
theorem dX6_intToBigEndian_0 : decode cX6_intToBigEndian 0 = .ok (.iconst 0, 1) := dk_3 (dk_at dksX6_intToBigEndian_0 0 rfl rfl)
theorem dX6_intToBigEndian_1 : decode cX6_intToBigEndian 1 = .ok (.istore_n 3, 1) := dk_62 (dk_at dksX6_intToBigEndian_0 1 rfl rfl)
theorem dX6_intToBigEndian_2 : decode cX6_intToBigEndian 2 = .ok (.iload_n 3, 1) := dk_29 (dk_at dksX6_intToBigEndian_0 2 rfl rfl)
theorem dX6_intToBigEndian_3 : decode cX6_intToBigEndian 3 = .ok (.aload_n 0, 1) := dk_42 (dk_at dksX6_intToBigEndian_0 3 rfl rfl)
theorem dX6_intToBigEndian_4 : decode cX6_intToBigEndian 4 = .ok (.arraylength, 1) := dk_190 (dk_at dksX6_intToBigEndian_0 4 rfl rfl)
theorem dX6_intToBigEndian_5 : decode cX6_intToBigEndian 5 = .ok (.if_icmp .ge 20, 3) := dk_162 0 20 (dk_at dksX6_intToBigEndian_0 5 rfl rfl)
theorem dX6_intToBigEndian_8 : decode cX6_intToBigEndian 8 = .ok (.aload_n 0, 1) := dk_42 (dk_at dksX6_intToBigEndian_0 8 rfl rfl)
theorem dX6_intToBigEndian_9 : decode cX6_intToBigEndian 9 = .ok (.iload_n 3, 1) := dk_29 (dk_at dksX6_intToBigEndian_0 9 rfl rfl)
theorem dX6_intToBigEndian_10 : decode cX6_intToBigEndian 10 = .ok (.iaload, 1) := dk_46 (dk_at dksX6_intToBigEndian_0 10 rfl rfl)
theorem dX6_intToBigEndian_11 : decode cX6_intToBigEndian 11 = .ok (.aload_n 1, 1) := dk_43 (dk_at dksX6_intToBigEndian_0 11 rfl rfl)
theorem dX6_intToBigEndian_12 : decode cX6_intToBigEndian 12 = .ok (.iload_n 2, 1) := dk_28 (dk_at dksX6_intToBigEndian_0 12 rfl rfl)
theorem dX6_intToBigEndian_13 : decode cX6_intToBigEndian 13 = .ok (.invokestatic 13, 3) := dk_184 0 13 (dk_at dksX6_intToBigEndian_0 13 rfl rfl)
theorem dX6_intToBigEndian_16 : decode cX6_intToBigEndian 16 = .ok (.iinc 2 4, 3) := dk_132 2 4 (dk_at dksX6_intToBigEndian_0 16 rfl rfl)
theorem dX6_intToBigEndian_19 : decode cX6_intToBigEndian 19 = .ok (.iinc 3 1, 3) := dk_132 3 1 (dk_at dksX6_intToBigEndian_0 19 rfl rfl)
theorem dX6_intToBigEndian_22 : decode cX6_intToBigEndian 22 = .ok (.goto (-20), 3) := dk_167 255 236 (dk_at dksX6_intToBigEndian_1 0 rfl rfl)
theorem dX6_intToBigEndian_25 : decode cX6_intToBigEndian 25 = .ok (.return_, 1) := dk_177 (dk_at dksX6_intToBigEndian_1 3 rfl rfl)
abbrev cX6_intToBigEndian_2 : ByteArray := prog_7_method_4_code
def yX6_intToBigEndian_2 : MethodName := ⟨RX6, "intToBigEndian", "(I[BI)V"⟩
def dkwX6_intToBigEndian_2_1 : List UInt8 := [26, 16, 8, 124, 145, 84, 43, 132, 2, 1, 28, 26, 145, 84, 177]
abbrev dktX6_intToBigEndian_2_1 : List UInt8 := dkwX6_intToBigEndian_2_1 ++ []
def dkwX6_intToBigEndian_2_0 : List UInt8 := [43, 28, 26, 16, 24, 124, 145, 84, 43, 132, 2, 1, 28, 26, 16, 16, 124, 145, 84, 43, 132, 2, 1, 28]
abbrev dktX6_intToBigEndian_2_0 : List UInt8 := dkwX6_intToBigEndian_2_0 ++ dktX6_intToBigEndian_2_1
theorem dksX6_intToBigEndian_2_0 : cX6_intToBigEndian_2.data.toList.drop 0 = dktX6_intToBigEndian_2_0 := by decide +kernel
theorem dksX6_intToBigEndian_2_1 : cX6_intToBigEndian_2.data.toList.drop 24 = dktX6_intToBigEndian_2_1 := dk_seg dksX6_intToBigEndian_2_0 24 rfl rfl
theorem dX6_intToBigEndian_2_0 : decode cX6_intToBigEndian_2 0 = .ok (.aload_n 1, 1) := dk_43 (dk_at dksX6_intToBigEndian_2_0 0 rfl rfl)
theorem dX6_intToBigEndian_2_1 : decode cX6_intToBigEndian_2 1 = .ok (.iload_n 2, 1) := dk_28 (dk_at dksX6_intToBigEndian_2_0 1 rfl rfl)
theorem dX6_intToBigEndian_2_2 : decode cX6_intToBigEndian_2 2 = .ok (.iload_n 0, 1) := dk_26 (dk_at dksX6_intToBigEndian_2_0 2 rfl rfl)
theorem dX6_intToBigEndian_2_3 : decode cX6_intToBigEndian_2 3 = .ok (.bipush 24, 2) := dk_16 24 (dk_at dksX6_intToBigEndian_2_0 3 rfl rfl)
theorem dX6_intToBigEndian_2_5 : decode cX6_intToBigEndian_2 5 = .ok (.iushr, 1) := dk_124 (dk_at dksX6_intToBigEndian_2_0 5 rfl rfl)
theorem dX6_intToBigEndian_2_6 : decode cX6_intToBigEndian_2 6 = .ok (.i2b, 1) := dk_145 (dk_at dksX6_intToBigEndian_2_0 6 rfl rfl)
theorem dX6_intToBigEndian_2_7 : decode cX6_intToBigEndian_2 7 = .ok (.bastore, 1) := dk_84 (dk_at dksX6_intToBigEndian_2_0 7 rfl rfl)
theorem dX6_intToBigEndian_2_8 : decode cX6_intToBigEndian_2 8 = .ok (.aload_n 1, 1) := dk_43 (dk_at dksX6_intToBigEndian_2_0 8 rfl rfl)
theorem dX6_intToBigEndian_2_9 : decode cX6_intToBigEndian_2 9 = .ok (.iinc 2 1, 3) := dk_132 2 1 (dk_at dksX6_intToBigEndian_2_0 9 rfl rfl)
theorem dX6_intToBigEndian_2_12 : decode cX6_intToBigEndian_2 12 = .ok (.iload_n 2, 1) := dk_28 (dk_at dksX6_intToBigEndian_2_0 12 rfl rfl)
theorem dX6_intToBigEndian_2_13 : decode cX6_intToBigEndian_2 13 = .ok (.iload_n 0, 1) := dk_26 (dk_at dksX6_intToBigEndian_2_0 13 rfl rfl)
theorem dX6_intToBigEndian_2_14 : decode cX6_intToBigEndian_2 14 = .ok (.bipush 16, 2) := dk_16 16 (dk_at dksX6_intToBigEndian_2_0 14 rfl rfl)
theorem dX6_intToBigEndian_2_16 : decode cX6_intToBigEndian_2 16 = .ok (.iushr, 1) := dk_124 (dk_at dksX6_intToBigEndian_2_0 16 rfl rfl)
theorem dX6_intToBigEndian_2_17 : decode cX6_intToBigEndian_2 17 = .ok (.i2b, 1) := dk_145 (dk_at dksX6_intToBigEndian_2_0 17 rfl rfl)
theorem dX6_intToBigEndian_2_18 : decode cX6_intToBigEndian_2 18 = .ok (.bastore, 1) := dk_84 (dk_at dksX6_intToBigEndian_2_0 18 rfl rfl)
theorem dX6_intToBigEndian_2_19 : decode cX6_intToBigEndian_2 19 = .ok (.aload_n 1, 1) := dk_43 (dk_at dksX6_intToBigEndian_2_0 19 rfl rfl)
theorem dX6_intToBigEndian_2_20 : decode cX6_intToBigEndian_2 20 = .ok (.iinc 2 1, 3) := dk_132 2 1 (dk_at dksX6_intToBigEndian_2_0 20 rfl rfl)
theorem dX6_intToBigEndian_2_23 : decode cX6_intToBigEndian_2 23 = .ok (.iload_n 2, 1) := dk_28 (dk_at dksX6_intToBigEndian_2_0 23 rfl rfl)
theorem dX6_intToBigEndian_2_24 : decode cX6_intToBigEndian_2 24 = .ok (.iload_n 0, 1) := dk_26 (dk_at dksX6_intToBigEndian_2_1 0 rfl rfl)
theorem dX6_intToBigEndian_2_25 : decode cX6_intToBigEndian_2 25 = .ok (.bipush 8, 2) := dk_16 8 (dk_at dksX6_intToBigEndian_2_1 1 rfl rfl)
theorem dX6_intToBigEndian_2_27 : decode cX6_intToBigEndian_2 27 = .ok (.iushr, 1) := dk_124 (dk_at dksX6_intToBigEndian_2_1 3 rfl rfl)
theorem dX6_intToBigEndian_2_28 : decode cX6_intToBigEndian_2 28 = .ok (.i2b, 1) := dk_145 (dk_at dksX6_intToBigEndian_2_1 4 rfl rfl)
theorem dX6_intToBigEndian_2_29 : decode cX6_intToBigEndian_2 29 = .ok (.bastore, 1) := dk_84 (dk_at dksX6_intToBigEndian_2_1 5 rfl rfl)
theorem dX6_intToBigEndian_2_30 : decode cX6_intToBigEndian_2 30 = .ok (.aload_n 1, 1) := dk_43 (dk_at dksX6_intToBigEndian_2_1 6 rfl rfl)
theorem dX6_intToBigEndian_2_31 : decode cX6_intToBigEndian_2 31 = .ok (.iinc 2 1, 3) := dk_132 2 1 (dk_at dksX6_intToBigEndian_2_1 7 rfl rfl)
theorem dX6_intToBigEndian_2_34 : decode cX6_intToBigEndian_2 34 = .ok (.iload_n 2, 1) := dk_28 (dk_at dksX6_intToBigEndian_2_1 10 rfl rfl)
theorem dX6_intToBigEndian_2_35 : decode cX6_intToBigEndian_2 35 = .ok (.iload_n 0, 1) := dk_26 (dk_at dksX6_intToBigEndian_2_1 11 rfl rfl)
theorem dX6_intToBigEndian_2_36 : decode cX6_intToBigEndian_2 36 = .ok (.i2b, 1) := dk_145 (dk_at dksX6_intToBigEndian_2_1 12 rfl rfl)
theorem dX6_intToBigEndian_2_37 : decode cX6_intToBigEndian_2 37 = .ok (.bastore, 1) := dk_84 (dk_at dksX6_intToBigEndian_2_1 13 rfl rfl)
theorem dX6_intToBigEndian_2_38 : decode cX6_intToBigEndian_2 38 = .ok (.return_, 1) := dk_177 (dk_at dksX6_intToBigEndian_2_1 14 rfl rfl)
theorem q22 : (Jvm.Cond.initialized "Pack") ∈ lw_all := lw_g (lw_at lw_m1 12 rfl) rfl
theorem q199 : (Jvm.Cond.static ({ cls := "Pack", name := "bigEndianToInt", desc := "([BI[I)V" } : Jvm.MethodName)) ∈ lw_all := lw_g (lw_at lw_m1 189 rfl) rfl
theorem q200 : (Jvm.Cond.code ({ cls := "Pack", name := "bigEndianToInt", desc := "([BI[I)V" } : Jvm.MethodName) prog_7_method_3_code (4 : Nat) (Option.none : Option Jvm.ClassFile.FieldType)) ∈ lw_all := lw_g (lw_at lw_m1 190 rfl) rfl
theorem q201 : (Jvm.Cond.methodLink "Pack" (7 : Nat) ({ cls := "Pack", name := "bigEndianToInt", desc := "([BI)I" } : Jvm.MethodName)) ∈ lw_all := lw_g (lw_at lw_m1 191 rfl) rfl
theorem q202 : (Jvm.Cond.static ({ cls := "Pack", name := "bigEndianToInt", desc := "([BI)I" } : Jvm.MethodName)) ∈ lw_all := lw_g (lw_at lw_m1 192 rfl) rfl
theorem q203 : (Jvm.Cond.code ({ cls := "Pack", name := "bigEndianToInt", desc := "([BI)I" } : Jvm.MethodName) prog_7_method_2_code (3 : Nat) (Option.some Jvm.ClassFile.FieldType.int)) ∈ lw_all := lw_g (lw_at lw_m1 193 rfl) rfl
theorem q233 : (Jvm.Cond.static ({ cls := "Pack", name := "intToBigEndian", desc := "([I[BI)V" } : Jvm.MethodName)) ∈ lw_all := lw_g (lw_at lw_m1 223 rfl) rfl
theorem q234 : (Jvm.Cond.code ({ cls := "Pack", name := "intToBigEndian", desc := "([I[BI)V" } : Jvm.MethodName) prog_7_method_5_code (4 : Nat) (Option.none : Option Jvm.ClassFile.FieldType)) ∈ lw_all := lw_g (lw_at lw_m1 224 rfl) rfl
theorem q235 : (Jvm.Cond.methodLink "Pack" (13 : Nat) ({ cls := "Pack", name := "intToBigEndian", desc := "(I[BI)V" } : Jvm.MethodName)) ∈ lw_all := lw_g (lw_at lw_m1 225 rfl) rfl
theorem q236 : (Jvm.Cond.static ({ cls := "Pack", name := "intToBigEndian", desc := "(I[BI)V" } : Jvm.MethodName)) ∈ lw_all := lw_g (lw_at lw_m1 226 rfl) rfl
theorem q237 : (Jvm.Cond.code ({ cls := "Pack", name := "intToBigEndian", desc := "(I[BI)V" } : Jvm.MethodName) prog_7_method_4_code (3 : Nat) (Option.none : Option Jvm.ClassFile.FieldType)) ∈ lw_all := lw_g (lw_at lw_m1 227 rfl) rfl
theorem q10 : (Jvm.Cond.initialized "CryptDeskLaw") ∈ lw_all := lw_g (lw_at lw_m1 0 rfl) rfl
set_option maxRecDepth 100000
theorem q24 : (Jvm.Cond.classLink "CryptDeskLaw" (7 : Nat) "CryptDesk") ∈ lw_all := lw_g (lw_at lw_m1 14 rfl) rfl
theorem q26 : (Jvm.Cond.methodLink "CryptDeskLaw" (9 : Nat) ({ cls := "CryptDesk", name := "<init>", desc := "()V" } : Jvm.MethodName)) ∈ lw_all := lw_g (lw_at lw_m1 16 rfl) rfl
theorem q46 : (Jvm.Cond.methodLink "CryptDeskLaw" (13 : Nat) ({ cls := "CryptDesk", name := "word", desc := "(IIII)V" } : Jvm.MethodName)) ∈ lw_all := lw_g (lw_at lw_m1 36 rfl) rfl
theorem q54 : (Jvm.Cond.methodLink "CryptDeskLaw" (18 : Nat) ({ cls := "CryptDesk", name := "cut", desc := "(I)V" } : Jvm.MethodName)) ∈ lw_all := lw_g (lw_at lw_m1 44 rfl) rfl
theorem q58 : (Jvm.Cond.methodLink "CryptDeskLaw" (23 : Nat) ({ cls := "CryptDesk", name := "salt", desc := "(IIII)V" } : Jvm.MethodName)) ∈ lw_all := lw_g (lw_at lw_m1 48 rfl) rfl
theorem q62 : (Jvm.Cond.methodLink "CryptDeskLaw" (27 : Nat) ({ cls := "CryptDesk", name := "hash", desc := "(I)V" } : Jvm.MethodName)) ∈ lw_all := lw_g (lw_at lw_m1 52 rfl) rfl
theorem q238 : (Jvm.Cond.methodLink "CryptDeskLaw" (31 : Nat) ({ cls := "CryptDesk", name := "out", desc := "(I)I" } : Jvm.MethodName)) ∈ lw_all := lw_g (lw_at lw_m1 228 rfl) rfl
theorem q242 : (Jvm.Cond.classLink "CryptDeskLaw" (10 : Nat) "CryptDeskModel") ∈ lw_all := lw_g (lw_at lw_m1 232 rfl) rfl
theorem q244 : (Jvm.Cond.methodLink "CryptDeskLaw" (12 : Nat) ({ cls := "CryptDeskModel", name := "<init>", desc := "()V" } : Jvm.MethodName)) ∈ lw_all := lw_g (lw_at lw_m1 234 rfl) rfl
theorem q270 : (Jvm.Cond.methodLink "CryptDeskLaw" (17 : Nat) ({ cls := "CryptDeskModel", name := "word", desc := "(IIII)V" } : Jvm.MethodName)) ∈ lw_all := lw_g (lw_at lw_m2 20 rfl) rfl
theorem q278 : (Jvm.Cond.methodLink "CryptDeskLaw" (22 : Nat) ({ cls := "CryptDeskModel", name := "cut", desc := "(I)V" } : Jvm.MethodName)) ∈ lw_all := lw_g (lw_at lw_m2 28 rfl) rfl
theorem q282 : (Jvm.Cond.methodLink "CryptDeskLaw" (26 : Nat) ({ cls := "CryptDeskModel", name := "salt", desc := "(IIII)V" } : Jvm.MethodName)) ∈ lw_all := lw_g (lw_at lw_m2 32 rfl) rfl
theorem q286 : (Jvm.Cond.methodLink "CryptDeskLaw" (30 : Nat) ({ cls := "CryptDeskModel", name := "hash", desc := "(I)V" } : Jvm.MethodName)) ∈ lw_all := lw_g (lw_at lw_m2 36 rfl) rfl
theorem q303 : (Jvm.Cond.methodLink "CryptDeskLaw" (35 : Nat) ({ cls := "CryptDeskModel", name := "out", desc := "(I)I" } : Jvm.MethodName)) ∈ lw_all := lw_g (lw_at lw_m2 53 rfl) rfl
theorem q19 : (Jvm.Cond.initialized "java/lang/System") ∈ lw_all := lw_g (lw_at lw_m1 9 rfl) rfl
set_option maxRecDepth 100000
theorem q142 : (Jvm.Cond.static ({ cls := "java/lang/System", name := "arraycopy", desc := "(Ljava/lang/Object;ILjava/lang/Object;II)V" } : Jvm.MethodName)) ∈ lw_all := lw_g (lw_at lw_m1 132 rfl) rfl
theorem q143 : (Jvm.Cond.native ({ cls := "java/lang/System", name := "arraycopy", desc := "(Ljava/lang/Object;ILjava/lang/Object;II)V" } : Jvm.MethodName)) ∈ lw_all := lw_g (lw_at lw_m1 133 rfl) rfl
theorem q45 : (Jvm.Cond.arrayClass Jvm.ClassFile.FieldType.byte) ∈ lw_all := lw_g (lw_at lw_m1 35 rfl) rfl
set_option maxRecDepth 100000
theorem q157 : (Jvm.Cond.arrayClass Jvm.ClassFile.FieldType.int) ∈ lw_all := lw_g (lw_at lw_m1 147 rfl) rfl
end
section
/-! CryptDeskModel -/
set_option maxRecDepth 100000
def RX1 : String := "CryptDeskModel"
def TX1 : u_T := fun k => match k with
  | 0 => ("CryptDeskModel", "word", "[I", true)
  | 1 => ("CryptDeskModel", "size", "I", false)
  | 2 => ("CryptDeskModel", "salt", "[I", true)
  | 3 => ("CryptDeskModel", "out", "[I", true)
  | 4 => ("CryptDeskModel", "table", "[I", true)
  | 5 => ("CryptDeskModel", "left", "I", false)
  | _ => ("CryptDeskModel", "right", "I", false)
def tyX1 : Nat → FieldType := fun k => match k with
  | 0 => .array .int
  | 1 => .int
  | 2 => .array .int
  | 3 => .array .int
  | 4 => .array .int
  | 5 => .int
  | _ => .int
abbrev wsX10 : List Cond := u_ws RX1 TX1 7
theorem nmX1 : ∀ a, a < 7 → ∀ b, b < 7 → a ≠ b → (TX1 a).2.1 ≠ (TX1 b).2.1 := by decide +kernel
theorem tyX1_ok : ∀ k, k < 7 → parseFieldDescriptor (TX1 k).2.2.1 = some (tyX1 k) := by decide +kernel
abbrev cX1_init : ByteArray := prog_4_method_1_code
def yX1_init : MethodName := ⟨RX1, "<init>", "()V"⟩
def dkwX1_init_1 : List UInt8 := [181, 0, 17, 42, 16, 24, 188, 10, 181, 0, 20, 42, 17, 4, 18, 188, 10, 181, 0, 23, 177]
abbrev dktX1_init_1 : List UInt8 := dkwX1_init_1 ++ []
def dkwX1_init_0 : List UInt8 := [42, 183, 0, 1, 42, 16, 72, 188, 10, 181, 0, 7, 42, 4, 181, 0, 13, 42, 16, 16, 188, 10]
abbrev dktX1_init_0 : List UInt8 := dkwX1_init_0 ++ dktX1_init_1
theorem dksX1_init_0 : cX1_init.data.toList.drop 0 = dktX1_init_0 := by decide +kernel
theorem dksX1_init_1 : cX1_init.data.toList.drop 22 = dktX1_init_1 := dk_seg dksX1_init_0 22 rfl rfl
theorem dX1_init_0 : decode cX1_init 0 = .ok (.aload_n 0, 1) := dk_42 (dk_at dksX1_init_0 0 rfl rfl)
theorem dX1_init_1 : decode cX1_init 1 = .ok (.invokespecial 1, 3) := dk_183 0 1 (dk_at dksX1_init_0 1 rfl rfl)
theorem dX1_init_4 : decode cX1_init 4 = .ok (.aload_n 0, 1) := dk_42 (dk_at dksX1_init_0 4 rfl rfl)
theorem dX1_init_5 : decode cX1_init 5 = .ok (.bipush 72, 2) := dk_16 72 (dk_at dksX1_init_0 5 rfl rfl)
theorem dX1_init_7 : decode cX1_init 7 = .ok (.newarray .int, 2) := dk_188_10 (dk_at dksX1_init_0 7 rfl rfl)
theorem dX1_init_9 : decode cX1_init 9 = .ok (.putfield 7, 3) := dk_181 0 7 (dk_at dksX1_init_0 9 rfl rfl)
theorem dX1_init_12 : decode cX1_init 12 = .ok (.aload_n 0, 1) := dk_42 (dk_at dksX1_init_0 12 rfl rfl)
theorem dX1_init_13 : decode cX1_init 13 = .ok (.iconst 1, 1) := dk_4 (dk_at dksX1_init_0 13 rfl rfl)
theorem dX1_init_14 : decode cX1_init 14 = .ok (.putfield 13, 3) := dk_181 0 13 (dk_at dksX1_init_0 14 rfl rfl)
theorem dX1_init_17 : decode cX1_init 17 = .ok (.aload_n 0, 1) := dk_42 (dk_at dksX1_init_0 17 rfl rfl)
theorem dX1_init_18 : decode cX1_init 18 = .ok (.bipush 16, 2) := dk_16 16 (dk_at dksX1_init_0 18 rfl rfl)
theorem dX1_init_20 : decode cX1_init 20 = .ok (.newarray .int, 2) := dk_188_10 (dk_at dksX1_init_0 20 rfl rfl)
theorem dX1_init_22 : decode cX1_init 22 = .ok (.putfield 17, 3) := dk_181 0 17 (dk_at dksX1_init_1 0 rfl rfl)
theorem dX1_init_25 : decode cX1_init 25 = .ok (.aload_n 0, 1) := dk_42 (dk_at dksX1_init_1 3 rfl rfl)
theorem dX1_init_26 : decode cX1_init 26 = .ok (.bipush 24, 2) := dk_16 24 (dk_at dksX1_init_1 4 rfl rfl)
theorem dX1_init_28 : decode cX1_init 28 = .ok (.newarray .int, 2) := dk_188_10 (dk_at dksX1_init_1 6 rfl rfl)
theorem dX1_init_30 : decode cX1_init 30 = .ok (.putfield 20, 3) := dk_181 0 20 (dk_at dksX1_init_1 8 rfl rfl)
theorem dX1_init_33 : decode cX1_init 33 = .ok (.aload_n 0, 1) := dk_42 (dk_at dksX1_init_1 11 rfl rfl)
theorem dX1_init_34 : decode cX1_init 34 = .ok (.sipush 1042, 3) := dk_17 4 18 (dk_at dksX1_init_1 12 rfl rfl)
theorem dX1_init_37 : decode cX1_init 37 = .ok (.newarray .int, 2) := dk_188_10 (dk_at dksX1_init_1 15 rfl rfl)
theorem dX1_init_39 : decode cX1_init 39 = .ok (.putfield 23, 3) := dk_181 0 23 (dk_at dksX1_init_1 17 rfl rfl)
theorem dX1_init_42 : decode cX1_init 42 = .ok (.return_, 1) := dk_177 (dk_at dksX1_init_1 20 rfl rfl)
abbrev cX1_word : ByteArray := prog_4_method_3_code
def yX1_word : MethodName := ⟨RX1, "word", "(IIII)V"⟩
def dkwX1_word_2 : List UInt8 := [184, 0, 27, 177]
abbrev dktX1_word_2 : List UInt8 := dkwX1_word_2 ++ []
def dkwX1_word_1 : List UInt8 := [180, 0, 7, 21, 5, 7, 96, 29, 184, 0, 27, 42, 180, 0, 7, 21, 5, 16, 8, 96, 21, 4]
abbrev dktX1_word_1 : List UInt8 := dkwX1_word_1 ++ dktX1_word_2
def dkwX1_word_0 : List UInt8 := [16, 12, 27, 18, 26, 126, 16, 6, 112, 104, 54, 5, 42, 180, 0, 7, 21, 5, 28, 184, 0, 27, 42]
abbrev dktX1_word_0 : List UInt8 := dkwX1_word_0 ++ dktX1_word_1
theorem dksX1_word_0 : cX1_word.data.toList.drop 0 = dktX1_word_0 := by decide +kernel
theorem dksX1_word_1 : cX1_word.data.toList.drop 23 = dktX1_word_1 := dk_seg dksX1_word_0 23 rfl rfl
theorem dksX1_word_2 : cX1_word.data.toList.drop 45 = dktX1_word_2 := dk_seg dksX1_word_1 22 rfl rfl
theorem dX1_word_0 : decode cX1_word 0 = .ok (.bipush 12, 2) := dk_16 12 (dk_at dksX1_word_0 0 rfl rfl)
theorem dX1_word_2 : decode cX1_word 2 = .ok (.iload_n 1, 1) := dk_27 (dk_at dksX1_word_0 2 rfl rfl)
theorem dX1_word_3 : decode cX1_word 3 = .ok (.ldc 26, 2) := dk_18 26 (dk_at dksX1_word_0 3 rfl rfl)
theorem dX1_word_5 : decode cX1_word 5 = .ok (.iand, 1) := dk_126 (dk_at dksX1_word_0 5 rfl rfl)
theorem dX1_word_6 : decode cX1_word 6 = .ok (.bipush 6, 2) := dk_16 6 (dk_at dksX1_word_0 6 rfl rfl)
theorem dX1_word_8 : decode cX1_word 8 = .ok (.irem, 1) := dk_112 (dk_at dksX1_word_0 8 rfl rfl)
theorem dX1_word_9 : decode cX1_word 9 = .ok (.imul, 1) := dk_104 (dk_at dksX1_word_0 9 rfl rfl)
theorem dX1_word_10 : decode cX1_word 10 = .ok (.istore 5, 2) := dk_54 5 (dk_at dksX1_word_0 10 rfl rfl)
theorem dX1_word_12 : decode cX1_word 12 = .ok (.aload_n 0, 1) := dk_42 (dk_at dksX1_word_0 12 rfl rfl)
theorem dX1_word_13 : decode cX1_word 13 = .ok (.getfield 7, 3) := dk_180 0 7 (dk_at dksX1_word_0 13 rfl rfl)
theorem dX1_word_16 : decode cX1_word 16 = .ok (.iload 5, 2) := dk_21 5 (dk_at dksX1_word_0 16 rfl rfl)
theorem dX1_word_18 : decode cX1_word 18 = .ok (.iload_n 2, 1) := dk_28 (dk_at dksX1_word_0 18 rfl rfl)
theorem dX1_word_19 : decode cX1_word 19 = .ok (.invokestatic 27, 3) := dk_184 0 27 (dk_at dksX1_word_0 19 rfl rfl)
theorem dX1_word_22 : decode cX1_word 22 = .ok (.aload_n 0, 1) := dk_42 (dk_at dksX1_word_0 22 rfl rfl)
theorem dX1_word_23 : decode cX1_word 23 = .ok (.getfield 7, 3) := dk_180 0 7 (dk_at dksX1_word_1 0 rfl rfl)
theorem dX1_word_26 : decode cX1_word 26 = .ok (.iload 5, 2) := dk_21 5 (dk_at dksX1_word_1 3 rfl rfl)
theorem dX1_word_28 : decode cX1_word 28 = .ok (.iconst 4, 1) := dk_7 (dk_at dksX1_word_1 5 rfl rfl)
theorem dX1_word_29 : decode cX1_word 29 = .ok (.iadd, 1) := dk_96 (dk_at dksX1_word_1 6 rfl rfl)
theorem dX1_word_30 : decode cX1_word 30 = .ok (.iload_n 3, 1) := dk_29 (dk_at dksX1_word_1 7 rfl rfl)
theorem dX1_word_31 : decode cX1_word 31 = .ok (.invokestatic 27, 3) := dk_184 0 27 (dk_at dksX1_word_1 8 rfl rfl)
theorem dX1_word_34 : decode cX1_word 34 = .ok (.aload_n 0, 1) := dk_42 (dk_at dksX1_word_1 11 rfl rfl)
theorem dX1_word_35 : decode cX1_word 35 = .ok (.getfield 7, 3) := dk_180 0 7 (dk_at dksX1_word_1 12 rfl rfl)
theorem dX1_word_38 : decode cX1_word 38 = .ok (.iload 5, 2) := dk_21 5 (dk_at dksX1_word_1 15 rfl rfl)
theorem dX1_word_40 : decode cX1_word 40 = .ok (.bipush 8, 2) := dk_16 8 (dk_at dksX1_word_1 17 rfl rfl)
theorem dX1_word_42 : decode cX1_word 42 = .ok (.iadd, 1) := dk_96 (dk_at dksX1_word_1 19 rfl rfl)
theorem dX1_word_43 : decode cX1_word 43 = .ok (.iload 4, 2) := dk_21 4 (dk_at dksX1_word_1 20 rfl rfl)
theorem dX1_word_45 : decode cX1_word 45 = .ok (.invokestatic 27, 3) := dk_184 0 27 (dk_at dksX1_word_2 0 rfl rfl)
theorem dX1_word_48 : decode cX1_word 48 = .ok (.return_, 1) := dk_177 (dk_at dksX1_word_2 3 rfl rfl)
abbrev cX1_lay : ByteArray := prog_4_method_2_code
def yX1_lay : MethodName := ⟨RX1, "lay", "([III)V"⟩
def dkwX1_lay_1 : List UInt8 := [79, 132, 3, 1, 167, 255, 230, 177]
abbrev dktX1_lay_1 : List UInt8 := dkwX1_lay_1 ++ []
def dkwX1_lay_0 : List UInt8 := [3, 62, 29, 7, 162, 0, 27, 42, 27, 29, 96, 28, 16, 24, 16, 8, 29, 104, 100, 124, 17, 0, 255, 126]
abbrev dktX1_lay_0 : List UInt8 := dkwX1_lay_0 ++ dktX1_lay_1
theorem dksX1_lay_0 : cX1_lay.data.toList.drop 0 = dktX1_lay_0 := by decide +kernel
theorem dksX1_lay_1 : cX1_lay.data.toList.drop 24 = dktX1_lay_1 := dk_seg dksX1_lay_0 24 rfl rfl
theorem dX1_lay_0 : decode cX1_lay 0 = .ok (.iconst 0, 1) := dk_3 (dk_at dksX1_lay_0 0 rfl rfl)
theorem dX1_lay_1 : decode cX1_lay 1 = .ok (.istore_n 3, 1) := dk_62 (dk_at dksX1_lay_0 1 rfl rfl)
theorem dX1_lay_2 : decode cX1_lay 2 = .ok (.iload_n 3, 1) := dk_29 (dk_at dksX1_lay_0 2 rfl rfl)
theorem dX1_lay_3 : decode cX1_lay 3 = .ok (.iconst 4, 1) := dk_7 (dk_at dksX1_lay_0 3 rfl rfl)
theorem dX1_lay_4 : decode cX1_lay 4 = .ok (.if_icmp .ge 27, 3) := dk_162 0 27 (dk_at dksX1_lay_0 4 rfl rfl)
theorem dX1_lay_7 : decode cX1_lay 7 = .ok (.aload_n 0, 1) := dk_42 (dk_at dksX1_lay_0 7 rfl rfl)
theorem dX1_lay_8 : decode cX1_lay 8 = .ok (.iload_n 1, 1) := dk_27 (dk_at dksX1_lay_0 8 rfl rfl)
theorem dX1_lay_9 : decode cX1_lay 9 = .ok (.iload_n 3, 1) := dk_29 (dk_at dksX1_lay_0 9 rfl rfl)
theorem dX1_lay_10 : decode cX1_lay 10 = .ok (.iadd, 1) := dk_96 (dk_at dksX1_lay_0 10 rfl rfl)
theorem dX1_lay_11 : decode cX1_lay 11 = .ok (.iload_n 2, 1) := dk_28 (dk_at dksX1_lay_0 11 rfl rfl)
theorem dX1_lay_12 : decode cX1_lay 12 = .ok (.bipush 24, 2) := dk_16 24 (dk_at dksX1_lay_0 12 rfl rfl)
theorem dX1_lay_14 : decode cX1_lay 14 = .ok (.bipush 8, 2) := dk_16 8 (dk_at dksX1_lay_0 14 rfl rfl)
theorem dX1_lay_16 : decode cX1_lay 16 = .ok (.iload_n 3, 1) := dk_29 (dk_at dksX1_lay_0 16 rfl rfl)
theorem dX1_lay_17 : decode cX1_lay 17 = .ok (.imul, 1) := dk_104 (dk_at dksX1_lay_0 17 rfl rfl)
theorem dX1_lay_18 : decode cX1_lay 18 = .ok (.isub, 1) := dk_100 (dk_at dksX1_lay_0 18 rfl rfl)
theorem dX1_lay_19 : decode cX1_lay 19 = .ok (.iushr, 1) := dk_124 (dk_at dksX1_lay_0 19 rfl rfl)
theorem dX1_lay_20 : decode cX1_lay 20 = .ok (.sipush 255, 3) := dk_17 0 255 (dk_at dksX1_lay_0 20 rfl rfl)
theorem dX1_lay_23 : decode cX1_lay 23 = .ok (.iand, 1) := dk_126 (dk_at dksX1_lay_0 23 rfl rfl)
theorem dX1_lay_24 : decode cX1_lay 24 = .ok (.iastore, 1) := dk_79 (dk_at dksX1_lay_1 0 rfl rfl)
theorem dX1_lay_25 : decode cX1_lay 25 = .ok (.iinc 3 1, 3) := dk_132 3 1 (dk_at dksX1_lay_1 1 rfl rfl)
theorem dX1_lay_28 : decode cX1_lay 28 = .ok (.goto (-26), 3) := dk_167 255 230 (dk_at dksX1_lay_1 4 rfl rfl)
theorem dX1_lay_31 : decode cX1_lay 31 = .ok (.return_, 1) := dk_177 (dk_at dksX1_lay_1 7 rfl rfl)
abbrev cX1_cut : ByteArray := prog_4_method_4_code
def yX1_cut : MethodName := ⟨RX1, "cut", "(I)V"⟩
def dkwX1_cut_0 : List UInt8 := [42, 4, 27, 18, 26, 126, 16, 72, 112, 96, 181, 0, 13, 177]
abbrev dktX1_cut_0 : List UInt8 := dkwX1_cut_0 ++ []
theorem dksX1_cut_0 : cX1_cut.data.toList.drop 0 = dktX1_cut_0 := by decide +kernel
theorem dX1_cut_0 : decode cX1_cut 0 = .ok (.aload_n 0, 1) := dk_42 (dk_at dksX1_cut_0 0 rfl rfl)
theorem dX1_cut_1 : decode cX1_cut 1 = .ok (.iconst 1, 1) := dk_4 (dk_at dksX1_cut_0 1 rfl rfl)
theorem dX1_cut_2 : decode cX1_cut 2 = .ok (.iload_n 1, 1) := dk_27 (dk_at dksX1_cut_0 2 rfl rfl)
theorem dX1_cut_3 : decode cX1_cut 3 = .ok (.ldc 26, 2) := dk_18 26 (dk_at dksX1_cut_0 3 rfl rfl)
theorem dX1_cut_5 : decode cX1_cut 5 = .ok (.iand, 1) := dk_126 (dk_at dksX1_cut_0 5 rfl rfl)
theorem dX1_cut_6 : decode cX1_cut 6 = .ok (.bipush 72, 2) := dk_16 72 (dk_at dksX1_cut_0 6 rfl rfl)
theorem dX1_cut_8 : decode cX1_cut 8 = .ok (.irem, 1) := dk_112 (dk_at dksX1_cut_0 8 rfl rfl)
theorem dX1_cut_9 : decode cX1_cut 9 = .ok (.iadd, 1) := dk_96 (dk_at dksX1_cut_0 9 rfl rfl)
theorem dX1_cut_10 : decode cX1_cut 10 = .ok (.putfield 13, 3) := dk_181 0 13 (dk_at dksX1_cut_0 10 rfl rfl)
theorem dX1_cut_13 : decode cX1_cut 13 = .ok (.return_, 1) := dk_177 (dk_at dksX1_cut_0 13 rfl rfl)
abbrev cX1_salt : ByteArray := prog_4_method_5_code
def yX1_salt : MethodName := ⟨RX1, "salt", "(IIII)V"⟩
def dkwX1_salt_1 : List UInt8 := [29, 184, 0, 27, 42, 180, 0, 17, 16, 12, 21, 4, 184, 0, 27, 177]
abbrev dktX1_salt_1 : List UInt8 := dkwX1_salt_1 ++ []
def dkwX1_salt_0 : List UInt8 := [42, 180, 0, 17, 3, 27, 184, 0, 27, 42, 180, 0, 17, 7, 28, 184, 0, 27, 42, 180, 0, 17, 16, 8]
abbrev dktX1_salt_0 : List UInt8 := dkwX1_salt_0 ++ dktX1_salt_1
theorem dksX1_salt_0 : cX1_salt.data.toList.drop 0 = dktX1_salt_0 := by decide +kernel
theorem dksX1_salt_1 : cX1_salt.data.toList.drop 24 = dktX1_salt_1 := dk_seg dksX1_salt_0 24 rfl rfl
theorem dX1_salt_0 : decode cX1_salt 0 = .ok (.aload_n 0, 1) := dk_42 (dk_at dksX1_salt_0 0 rfl rfl)
theorem dX1_salt_1 : decode cX1_salt 1 = .ok (.getfield 17, 3) := dk_180 0 17 (dk_at dksX1_salt_0 1 rfl rfl)
theorem dX1_salt_4 : decode cX1_salt 4 = .ok (.iconst 0, 1) := dk_3 (dk_at dksX1_salt_0 4 rfl rfl)
theorem dX1_salt_5 : decode cX1_salt 5 = .ok (.iload_n 1, 1) := dk_27 (dk_at dksX1_salt_0 5 rfl rfl)
theorem dX1_salt_6 : decode cX1_salt 6 = .ok (.invokestatic 27, 3) := dk_184 0 27 (dk_at dksX1_salt_0 6 rfl rfl)
theorem dX1_salt_9 : decode cX1_salt 9 = .ok (.aload_n 0, 1) := dk_42 (dk_at dksX1_salt_0 9 rfl rfl)
theorem dX1_salt_10 : decode cX1_salt 10 = .ok (.getfield 17, 3) := dk_180 0 17 (dk_at dksX1_salt_0 10 rfl rfl)
theorem dX1_salt_13 : decode cX1_salt 13 = .ok (.iconst 4, 1) := dk_7 (dk_at dksX1_salt_0 13 rfl rfl)
theorem dX1_salt_14 : decode cX1_salt 14 = .ok (.iload_n 2, 1) := dk_28 (dk_at dksX1_salt_0 14 rfl rfl)
theorem dX1_salt_15 : decode cX1_salt 15 = .ok (.invokestatic 27, 3) := dk_184 0 27 (dk_at dksX1_salt_0 15 rfl rfl)
theorem dX1_salt_18 : decode cX1_salt 18 = .ok (.aload_n 0, 1) := dk_42 (dk_at dksX1_salt_0 18 rfl rfl)
theorem dX1_salt_19 : decode cX1_salt 19 = .ok (.getfield 17, 3) := dk_180 0 17 (dk_at dksX1_salt_0 19 rfl rfl)
theorem dX1_salt_22 : decode cX1_salt 22 = .ok (.bipush 8, 2) := dk_16 8 (dk_at dksX1_salt_0 22 rfl rfl)
theorem dX1_salt_24 : decode cX1_salt 24 = .ok (.iload_n 3, 1) := dk_29 (dk_at dksX1_salt_1 0 rfl rfl)
theorem dX1_salt_25 : decode cX1_salt 25 = .ok (.invokestatic 27, 3) := dk_184 0 27 (dk_at dksX1_salt_1 1 rfl rfl)
theorem dX1_salt_28 : decode cX1_salt 28 = .ok (.aload_n 0, 1) := dk_42 (dk_at dksX1_salt_1 4 rfl rfl)
theorem dX1_salt_29 : decode cX1_salt 29 = .ok (.getfield 17, 3) := dk_180 0 17 (dk_at dksX1_salt_1 5 rfl rfl)
theorem dX1_salt_32 : decode cX1_salt 32 = .ok (.bipush 12, 2) := dk_16 12 (dk_at dksX1_salt_1 8 rfl rfl)
theorem dX1_salt_34 : decode cX1_salt 34 = .ok (.iload 4, 2) := dk_21 4 (dk_at dksX1_salt_1 10 rfl rfl)
theorem dX1_salt_36 : decode cX1_salt 36 = .ok (.invokestatic 27, 3) := dk_184 0 27 (dk_at dksX1_salt_1 12 rfl rfl)
theorem dX1_salt_39 : decode cX1_salt 39 = .ok (.return_, 1) := dk_177 (dk_at dksX1_salt_1 15 rfl rfl)
abbrev cX1_hash : ByteArray := prog_4_method_9_code
def yX1_hash : MethodName := ⟨RX1, "hash", "(I)V"⟩
def dkwX1_hash_13 : List UInt8 := [21, 4, 7, 96, 42, 180, 0, 34, 184, 0, 27, 21, 4, 16, 8, 96, 54, 4, 167, 255, 168, 177]
abbrev dktX1_hash_13 : List UInt8 := dkwX1_hash_13 ++ []
def dkwX1_hash_12 : List UInt8 := [132, 5, 1, 167, 255, 242, 42, 180, 0, 20, 21, 4, 42, 180, 0, 31, 184, 0, 27, 42, 180, 0, 20]
abbrev dktX1_hash_12 : List UInt8 := dkwX1_hash_12 ++ dktX1_hash_13
def dkwX1_hash_11 : List UInt8 := [21, 4, 7, 96, 184, 0, 37, 181, 0, 34, 3, 54, 5, 21, 5, 16, 64, 162, 0, 13, 42, 182, 0, 41]
abbrev dktX1_hash_11 : List UInt8 := dkwX1_hash_11 ++ dktX1_hash_12
def dkwX1_hash_10 : List UInt8 := [21, 4, 16, 24, 162, 0, 87, 42, 45, 16, 24, 21, 4, 184, 0, 37, 181, 0, 31, 42, 45, 16, 24]
abbrev dktX1_hash_10 : List UInt8 := dkwX1_hash_10 ++ dktX1_hash_11
def dkwX1_hash_9 : List UInt8 := [182, 0, 47, 42, 42, 180, 0, 17, 16, 16, 44, 182, 0, 47, 132, 4, 1, 167, 255, 217, 3, 54, 4]
abbrev dktX1_hash_9 : List UInt8 := dkwX1_hash_9 ++ dktX1_hash_10
def dkwX1_hash_8 : List UInt8 := [54, 4, 21, 4, 4, 7, 27, 4, 126, 96, 120, 162, 0, 33, 42, 42, 180, 0, 7, 42, 180, 0, 13, 44]
abbrev dktX1_hash_8 : List UInt8 := dkwX1_hash_8 ++ dktX1_hash_9
def dkwX1_hash_7 : List UInt8 := [89, 16, 23, 16, 116, 79, 78, 42, 42, 180, 0, 7, 42, 180, 0, 13, 42, 180, 0, 17, 182, 0, 47, 3]
abbrev dktX1_hash_7 : List UInt8 := dkwX1_hash_7 ++ dktX1_hash_8
def dkwX1_hash_6 : List UInt8 := [89, 16, 19, 16, 68, 79, 89, 16, 20, 16, 111, 79, 89, 16, 21, 16, 117, 79, 89, 16, 22, 16, 98, 79]
abbrev dktX1_hash_6 : List UInt8 := dkwX1_hash_6 ++ dktX1_hash_7
def dkwX1_hash_5 : List UInt8 := [89, 16, 15, 16, 83, 79, 89, 16, 16, 16, 99, 79, 89, 16, 17, 16, 114, 79, 89, 16, 18, 16, 121, 79]
abbrev dktX1_hash_5 : List UInt8 := dkwX1_hash_5 ++ dktX1_hash_6
def dkwX1_hash_4 : List UInt8 := [89, 16, 11, 16, 108, 79, 89, 16, 12, 16, 100, 79, 89, 16, 13, 16, 101, 79, 89, 16, 14, 16, 114, 79]
abbrev dktX1_hash_4 : List UInt8 := dkwX1_hash_4 ++ dktX1_hash_5
def dkwX1_hash_3 : List UInt8 := [89, 16, 7, 16, 66, 79, 89, 16, 8, 16, 101, 79, 89, 16, 9, 16, 104, 79, 89, 16, 10, 16, 111, 79]
abbrev dktX1_hash_3 : List UInt8 := dkwX1_hash_3 ++ dktX1_hash_4
def dkwX1_hash_2 : List UInt8 := [16, 112, 79, 89, 6, 16, 104, 79, 89, 7, 16, 101, 79, 89, 8, 16, 97, 79, 89, 16, 6, 16, 110, 79]
abbrev dktX1_hash_2 : List UInt8 := dkwX1_hash_2 ++ dktX1_hash_3
def dkwX1_hash_1 : List UInt8 := [167, 255, 235, 16, 16, 188, 10, 77, 16, 24, 188, 10, 89, 3, 16, 79, 79, 89, 4, 16, 114, 79, 89, 5]
abbrev dktX1_hash_1 : List UInt8 := dkwX1_hash_1 ++ dktX1_hash_2
def dkwX1_hash_0 : List UInt8 := [3, 61, 28, 17, 4, 18, 162, 0, 20, 42, 180, 0, 23, 28, 178, 0, 44, 28, 46, 79, 132, 2, 1]
abbrev dktX1_hash_0 : List UInt8 := dkwX1_hash_0 ++ dktX1_hash_1
theorem dksX1_hash_0 : cX1_hash.data.toList.drop 0 = dktX1_hash_0 := by decide +kernel
theorem dksX1_hash_1 : cX1_hash.data.toList.drop 23 = dktX1_hash_1 := dk_seg dksX1_hash_0 23 rfl rfl
theorem dksX1_hash_2 : cX1_hash.data.toList.drop 47 = dktX1_hash_2 := dk_seg dksX1_hash_1 24 rfl rfl
theorem dksX1_hash_3 : cX1_hash.data.toList.drop 71 = dktX1_hash_3 := dk_seg dksX1_hash_2 24 rfl rfl
theorem dksX1_hash_4 : cX1_hash.data.toList.drop 95 = dktX1_hash_4 := dk_seg dksX1_hash_3 24 rfl rfl
theorem dksX1_hash_5 : cX1_hash.data.toList.drop 119 = dktX1_hash_5 := dk_seg dksX1_hash_4 24 rfl rfl
theorem dksX1_hash_6 : cX1_hash.data.toList.drop 143 = dktX1_hash_6 := dk_seg dksX1_hash_5 24 rfl rfl
theorem dksX1_hash_7 : cX1_hash.data.toList.drop 167 = dktX1_hash_7 := dk_seg dksX1_hash_6 24 rfl rfl
theorem dksX1_hash_8 : cX1_hash.data.toList.drop 191 = dktX1_hash_8 := dk_seg dksX1_hash_7 24 rfl rfl
theorem dksX1_hash_9 : cX1_hash.data.toList.drop 215 = dktX1_hash_9 := dk_seg dksX1_hash_8 24 rfl rfl
theorem dksX1_hash_10 : cX1_hash.data.toList.drop 238 = dktX1_hash_10 := dk_seg dksX1_hash_9 23 rfl rfl
theorem dksX1_hash_11 : cX1_hash.data.toList.drop 261 = dktX1_hash_11 := dk_seg dksX1_hash_10 23 rfl rfl
theorem dksX1_hash_12 : cX1_hash.data.toList.drop 285 = dktX1_hash_12 := dk_seg dksX1_hash_11 24 rfl rfl
theorem dksX1_hash_13 : cX1_hash.data.toList.drop 308 = dktX1_hash_13 := dk_seg dksX1_hash_12 23 rfl rfl
theorem dX1_hash_0 : decode cX1_hash 0 = .ok (.iconst 0, 1) := dk_3 (dk_at dksX1_hash_0 0 rfl rfl)
theorem dX1_hash_1 : decode cX1_hash 1 = .ok (.istore_n 2, 1) := dk_61 (dk_at dksX1_hash_0 1 rfl rfl)
theorem dX1_hash_2 : decode cX1_hash 2 = .ok (.iload_n 2, 1) := dk_28 (dk_at dksX1_hash_0 2 rfl rfl)
theorem dX1_hash_3 : decode cX1_hash 3 = .ok (.sipush 1042, 3) := dk_17 4 18 (dk_at dksX1_hash_0 3 rfl rfl)
theorem dX1_hash_6 : decode cX1_hash 6 = .ok (.if_icmp .ge 20, 3) := dk_162 0 20 (dk_at dksX1_hash_0 6 rfl rfl)
theorem dX1_hash_9 : decode cX1_hash 9 = .ok (.aload_n 0, 1) := dk_42 (dk_at dksX1_hash_0 9 rfl rfl)
theorem dX1_hash_10 : decode cX1_hash 10 = .ok (.getfield 23, 3) := dk_180 0 23 (dk_at dksX1_hash_0 10 rfl rfl)
theorem dX1_hash_13 : decode cX1_hash 13 = .ok (.iload_n 2, 1) := dk_28 (dk_at dksX1_hash_0 13 rfl rfl)
theorem dX1_hash_14 : decode cX1_hash 14 = .ok (.getstatic 44, 3) := dk_178 0 44 (dk_at dksX1_hash_0 14 rfl rfl)
theorem dX1_hash_17 : decode cX1_hash 17 = .ok (.iload_n 2, 1) := dk_28 (dk_at dksX1_hash_0 17 rfl rfl)
theorem dX1_hash_18 : decode cX1_hash 18 = .ok (.iaload, 1) := dk_46 (dk_at dksX1_hash_0 18 rfl rfl)
theorem dX1_hash_19 : decode cX1_hash 19 = .ok (.iastore, 1) := dk_79 (dk_at dksX1_hash_0 19 rfl rfl)
theorem dX1_hash_20 : decode cX1_hash 20 = .ok (.iinc 2 1, 3) := dk_132 2 1 (dk_at dksX1_hash_0 20 rfl rfl)
theorem dX1_hash_23 : decode cX1_hash 23 = .ok (.goto (-21), 3) := dk_167 255 235 (dk_at dksX1_hash_1 0 rfl rfl)
theorem dX1_hash_26 : decode cX1_hash 26 = .ok (.bipush 16, 2) := dk_16 16 (dk_at dksX1_hash_1 3 rfl rfl)
theorem dX1_hash_28 : decode cX1_hash 28 = .ok (.newarray .int, 2) := dk_188_10 (dk_at dksX1_hash_1 5 rfl rfl)
theorem dX1_hash_30 : decode cX1_hash 30 = .ok (.astore_n 2, 1) := dk_77 (dk_at dksX1_hash_1 7 rfl rfl)
theorem dX1_hash_31 : decode cX1_hash 31 = .ok (.bipush 24, 2) := dk_16 24 (dk_at dksX1_hash_1 8 rfl rfl)
theorem dX1_hash_33 : decode cX1_hash 33 = .ok (.newarray .int, 2) := dk_188_10 (dk_at dksX1_hash_1 10 rfl rfl)
theorem dX1_hash_35 : decode cX1_hash 35 = .ok (.dup, 1) := dk_89 (dk_at dksX1_hash_1 12 rfl rfl)
theorem dX1_hash_36 : decode cX1_hash 36 = .ok (.iconst 0, 1) := dk_3 (dk_at dksX1_hash_1 13 rfl rfl)
theorem dX1_hash_37 : decode cX1_hash 37 = .ok (.bipush 79, 2) := dk_16 79 (dk_at dksX1_hash_1 14 rfl rfl)
theorem dX1_hash_39 : decode cX1_hash 39 = .ok (.iastore, 1) := dk_79 (dk_at dksX1_hash_1 16 rfl rfl)
theorem dX1_hash_40 : decode cX1_hash 40 = .ok (.dup, 1) := dk_89 (dk_at dksX1_hash_1 17 rfl rfl)
theorem dX1_hash_41 : decode cX1_hash 41 = .ok (.iconst 1, 1) := dk_4 (dk_at dksX1_hash_1 18 rfl rfl)
theorem dX1_hash_42 : decode cX1_hash 42 = .ok (.bipush 114, 2) := dk_16 114 (dk_at dksX1_hash_1 19 rfl rfl)
theorem dX1_hash_44 : decode cX1_hash 44 = .ok (.iastore, 1) := dk_79 (dk_at dksX1_hash_1 21 rfl rfl)
theorem dX1_hash_45 : decode cX1_hash 45 = .ok (.dup, 1) := dk_89 (dk_at dksX1_hash_1 22 rfl rfl)
theorem dX1_hash_46 : decode cX1_hash 46 = .ok (.iconst 2, 1) := dk_5 (dk_at dksX1_hash_1 23 rfl rfl)
theorem dX1_hash_47 : decode cX1_hash 47 = .ok (.bipush 112, 2) := dk_16 112 (dk_at dksX1_hash_2 0 rfl rfl)
theorem dX1_hash_49 : decode cX1_hash 49 = .ok (.iastore, 1) := dk_79 (dk_at dksX1_hash_2 2 rfl rfl)
theorem dX1_hash_50 : decode cX1_hash 50 = .ok (.dup, 1) := dk_89 (dk_at dksX1_hash_2 3 rfl rfl)
theorem dX1_hash_51 : decode cX1_hash 51 = .ok (.iconst 3, 1) := dk_6 (dk_at dksX1_hash_2 4 rfl rfl)
theorem dX1_hash_52 : decode cX1_hash 52 = .ok (.bipush 104, 2) := dk_16 104 (dk_at dksX1_hash_2 5 rfl rfl)
theorem dX1_hash_54 : decode cX1_hash 54 = .ok (.iastore, 1) := dk_79 (dk_at dksX1_hash_2 7 rfl rfl)
theorem dX1_hash_55 : decode cX1_hash 55 = .ok (.dup, 1) := dk_89 (dk_at dksX1_hash_2 8 rfl rfl)
theorem dX1_hash_56 : decode cX1_hash 56 = .ok (.iconst 4, 1) := dk_7 (dk_at dksX1_hash_2 9 rfl rfl)
theorem dX1_hash_57 : decode cX1_hash 57 = .ok (.bipush 101, 2) := dk_16 101 (dk_at dksX1_hash_2 10 rfl rfl)
theorem dX1_hash_59 : decode cX1_hash 59 = .ok (.iastore, 1) := dk_79 (dk_at dksX1_hash_2 12 rfl rfl)
theorem dX1_hash_60 : decode cX1_hash 60 = .ok (.dup, 1) := dk_89 (dk_at dksX1_hash_2 13 rfl rfl)
theorem dX1_hash_61 : decode cX1_hash 61 = .ok (.iconst 5, 1) := dk_8 (dk_at dksX1_hash_2 14 rfl rfl)
theorem dX1_hash_62 : decode cX1_hash 62 = .ok (.bipush 97, 2) := dk_16 97 (dk_at dksX1_hash_2 15 rfl rfl)
theorem dX1_hash_64 : decode cX1_hash 64 = .ok (.iastore, 1) := dk_79 (dk_at dksX1_hash_2 17 rfl rfl)
theorem dX1_hash_65 : decode cX1_hash 65 = .ok (.dup, 1) := dk_89 (dk_at dksX1_hash_2 18 rfl rfl)
theorem dX1_hash_66 : decode cX1_hash 66 = .ok (.bipush 6, 2) := dk_16 6 (dk_at dksX1_hash_2 19 rfl rfl)
theorem dX1_hash_68 : decode cX1_hash 68 = .ok (.bipush 110, 2) := dk_16 110 (dk_at dksX1_hash_2 21 rfl rfl)
theorem dX1_hash_70 : decode cX1_hash 70 = .ok (.iastore, 1) := dk_79 (dk_at dksX1_hash_2 23 rfl rfl)
theorem dX1_hash_71 : decode cX1_hash 71 = .ok (.dup, 1) := dk_89 (dk_at dksX1_hash_3 0 rfl rfl)
theorem dX1_hash_72 : decode cX1_hash 72 = .ok (.bipush 7, 2) := dk_16 7 (dk_at dksX1_hash_3 1 rfl rfl)
theorem dX1_hash_74 : decode cX1_hash 74 = .ok (.bipush 66, 2) := dk_16 66 (dk_at dksX1_hash_3 3 rfl rfl)
theorem dX1_hash_76 : decode cX1_hash 76 = .ok (.iastore, 1) := dk_79 (dk_at dksX1_hash_3 5 rfl rfl)
theorem dX1_hash_77 : decode cX1_hash 77 = .ok (.dup, 1) := dk_89 (dk_at dksX1_hash_3 6 rfl rfl)
theorem dX1_hash_78 : decode cX1_hash 78 = .ok (.bipush 8, 2) := dk_16 8 (dk_at dksX1_hash_3 7 rfl rfl)
theorem dX1_hash_80 : decode cX1_hash 80 = .ok (.bipush 101, 2) := dk_16 101 (dk_at dksX1_hash_3 9 rfl rfl)
theorem dX1_hash_82 : decode cX1_hash 82 = .ok (.iastore, 1) := dk_79 (dk_at dksX1_hash_3 11 rfl rfl)
theorem dX1_hash_83 : decode cX1_hash 83 = .ok (.dup, 1) := dk_89 (dk_at dksX1_hash_3 12 rfl rfl)
theorem dX1_hash_84 : decode cX1_hash 84 = .ok (.bipush 9, 2) := dk_16 9 (dk_at dksX1_hash_3 13 rfl rfl)
theorem dX1_hash_86 : decode cX1_hash 86 = .ok (.bipush 104, 2) := dk_16 104 (dk_at dksX1_hash_3 15 rfl rfl)
theorem dX1_hash_88 : decode cX1_hash 88 = .ok (.iastore, 1) := dk_79 (dk_at dksX1_hash_3 17 rfl rfl)
theorem dX1_hash_89 : decode cX1_hash 89 = .ok (.dup, 1) := dk_89 (dk_at dksX1_hash_3 18 rfl rfl)
theorem dX1_hash_90 : decode cX1_hash 90 = .ok (.bipush 10, 2) := dk_16 10 (dk_at dksX1_hash_3 19 rfl rfl)
theorem dX1_hash_92 : decode cX1_hash 92 = .ok (.bipush 111, 2) := dk_16 111 (dk_at dksX1_hash_3 21 rfl rfl)
theorem dX1_hash_94 : decode cX1_hash 94 = .ok (.iastore, 1) := dk_79 (dk_at dksX1_hash_3 23 rfl rfl)
theorem dX1_hash_95 : decode cX1_hash 95 = .ok (.dup, 1) := dk_89 (dk_at dksX1_hash_4 0 rfl rfl)
theorem dX1_hash_96 : decode cX1_hash 96 = .ok (.bipush 11, 2) := dk_16 11 (dk_at dksX1_hash_4 1 rfl rfl)
theorem dX1_hash_98 : decode cX1_hash 98 = .ok (.bipush 108, 2) := dk_16 108 (dk_at dksX1_hash_4 3 rfl rfl)
theorem dX1_hash_100 : decode cX1_hash 100 = .ok (.iastore, 1) := dk_79 (dk_at dksX1_hash_4 5 rfl rfl)
theorem dX1_hash_101 : decode cX1_hash 101 = .ok (.dup, 1) := dk_89 (dk_at dksX1_hash_4 6 rfl rfl)
theorem dX1_hash_102 : decode cX1_hash 102 = .ok (.bipush 12, 2) := dk_16 12 (dk_at dksX1_hash_4 7 rfl rfl)
theorem dX1_hash_104 : decode cX1_hash 104 = .ok (.bipush 100, 2) := dk_16 100 (dk_at dksX1_hash_4 9 rfl rfl)
theorem dX1_hash_106 : decode cX1_hash 106 = .ok (.iastore, 1) := dk_79 (dk_at dksX1_hash_4 11 rfl rfl)
theorem dX1_hash_107 : decode cX1_hash 107 = .ok (.dup, 1) := dk_89 (dk_at dksX1_hash_4 12 rfl rfl)
theorem dX1_hash_108 : decode cX1_hash 108 = .ok (.bipush 13, 2) := dk_16 13 (dk_at dksX1_hash_4 13 rfl rfl)
theorem dX1_hash_110 : decode cX1_hash 110 = .ok (.bipush 101, 2) := dk_16 101 (dk_at dksX1_hash_4 15 rfl rfl)
theorem dX1_hash_112 : decode cX1_hash 112 = .ok (.iastore, 1) := dk_79 (dk_at dksX1_hash_4 17 rfl rfl)
theorem dX1_hash_113 : decode cX1_hash 113 = .ok (.dup, 1) := dk_89 (dk_at dksX1_hash_4 18 rfl rfl)
theorem dX1_hash_114 : decode cX1_hash 114 = .ok (.bipush 14, 2) := dk_16 14 (dk_at dksX1_hash_4 19 rfl rfl)
theorem dX1_hash_116 : decode cX1_hash 116 = .ok (.bipush 114, 2) := dk_16 114 (dk_at dksX1_hash_4 21 rfl rfl)
theorem dX1_hash_118 : decode cX1_hash 118 = .ok (.iastore, 1) := dk_79 (dk_at dksX1_hash_4 23 rfl rfl)
theorem dX1_hash_119 : decode cX1_hash 119 = .ok (.dup, 1) := dk_89 (dk_at dksX1_hash_5 0 rfl rfl)
theorem dX1_hash_120 : decode cX1_hash 120 = .ok (.bipush 15, 2) := dk_16 15 (dk_at dksX1_hash_5 1 rfl rfl)
theorem dX1_hash_122 : decode cX1_hash 122 = .ok (.bipush 83, 2) := dk_16 83 (dk_at dksX1_hash_5 3 rfl rfl)
theorem dX1_hash_124 : decode cX1_hash 124 = .ok (.iastore, 1) := dk_79 (dk_at dksX1_hash_5 5 rfl rfl)
theorem dX1_hash_125 : decode cX1_hash 125 = .ok (.dup, 1) := dk_89 (dk_at dksX1_hash_5 6 rfl rfl)
theorem dX1_hash_126 : decode cX1_hash 126 = .ok (.bipush 16, 2) := dk_16 16 (dk_at dksX1_hash_5 7 rfl rfl)
theorem dX1_hash_128 : decode cX1_hash 128 = .ok (.bipush 99, 2) := dk_16 99 (dk_at dksX1_hash_5 9 rfl rfl)
theorem dX1_hash_130 : decode cX1_hash 130 = .ok (.iastore, 1) := dk_79 (dk_at dksX1_hash_5 11 rfl rfl)
theorem dX1_hash_131 : decode cX1_hash 131 = .ok (.dup, 1) := dk_89 (dk_at dksX1_hash_5 12 rfl rfl)
theorem dX1_hash_132 : decode cX1_hash 132 = .ok (.bipush 17, 2) := dk_16 17 (dk_at dksX1_hash_5 13 rfl rfl)
theorem dX1_hash_134 : decode cX1_hash 134 = .ok (.bipush 114, 2) := dk_16 114 (dk_at dksX1_hash_5 15 rfl rfl)
theorem dX1_hash_136 : decode cX1_hash 136 = .ok (.iastore, 1) := dk_79 (dk_at dksX1_hash_5 17 rfl rfl)
theorem dX1_hash_137 : decode cX1_hash 137 = .ok (.dup, 1) := dk_89 (dk_at dksX1_hash_5 18 rfl rfl)
theorem dX1_hash_138 : decode cX1_hash 138 = .ok (.bipush 18, 2) := dk_16 18 (dk_at dksX1_hash_5 19 rfl rfl)
theorem dX1_hash_140 : decode cX1_hash 140 = .ok (.bipush 121, 2) := dk_16 121 (dk_at dksX1_hash_5 21 rfl rfl)
theorem dX1_hash_142 : decode cX1_hash 142 = .ok (.iastore, 1) := dk_79 (dk_at dksX1_hash_5 23 rfl rfl)
theorem dX1_hash_143 : decode cX1_hash 143 = .ok (.dup, 1) := dk_89 (dk_at dksX1_hash_6 0 rfl rfl)
theorem dX1_hash_144 : decode cX1_hash 144 = .ok (.bipush 19, 2) := dk_16 19 (dk_at dksX1_hash_6 1 rfl rfl)
theorem dX1_hash_146 : decode cX1_hash 146 = .ok (.bipush 68, 2) := dk_16 68 (dk_at dksX1_hash_6 3 rfl rfl)
theorem dX1_hash_148 : decode cX1_hash 148 = .ok (.iastore, 1) := dk_79 (dk_at dksX1_hash_6 5 rfl rfl)
theorem dX1_hash_149 : decode cX1_hash 149 = .ok (.dup, 1) := dk_89 (dk_at dksX1_hash_6 6 rfl rfl)
theorem dX1_hash_150 : decode cX1_hash 150 = .ok (.bipush 20, 2) := dk_16 20 (dk_at dksX1_hash_6 7 rfl rfl)
theorem dX1_hash_152 : decode cX1_hash 152 = .ok (.bipush 111, 2) := dk_16 111 (dk_at dksX1_hash_6 9 rfl rfl)
theorem dX1_hash_154 : decode cX1_hash 154 = .ok (.iastore, 1) := dk_79 (dk_at dksX1_hash_6 11 rfl rfl)
theorem dX1_hash_155 : decode cX1_hash 155 = .ok (.dup, 1) := dk_89 (dk_at dksX1_hash_6 12 rfl rfl)
theorem dX1_hash_156 : decode cX1_hash 156 = .ok (.bipush 21, 2) := dk_16 21 (dk_at dksX1_hash_6 13 rfl rfl)
theorem dX1_hash_158 : decode cX1_hash 158 = .ok (.bipush 117, 2) := dk_16 117 (dk_at dksX1_hash_6 15 rfl rfl)
theorem dX1_hash_160 : decode cX1_hash 160 = .ok (.iastore, 1) := dk_79 (dk_at dksX1_hash_6 17 rfl rfl)
theorem dX1_hash_161 : decode cX1_hash 161 = .ok (.dup, 1) := dk_89 (dk_at dksX1_hash_6 18 rfl rfl)
theorem dX1_hash_162 : decode cX1_hash 162 = .ok (.bipush 22, 2) := dk_16 22 (dk_at dksX1_hash_6 19 rfl rfl)
theorem dX1_hash_164 : decode cX1_hash 164 = .ok (.bipush 98, 2) := dk_16 98 (dk_at dksX1_hash_6 21 rfl rfl)
theorem dX1_hash_166 : decode cX1_hash 166 = .ok (.iastore, 1) := dk_79 (dk_at dksX1_hash_6 23 rfl rfl)
theorem dX1_hash_167 : decode cX1_hash 167 = .ok (.dup, 1) := dk_89 (dk_at dksX1_hash_7 0 rfl rfl)
theorem dX1_hash_168 : decode cX1_hash 168 = .ok (.bipush 23, 2) := dk_16 23 (dk_at dksX1_hash_7 1 rfl rfl)
theorem dX1_hash_170 : decode cX1_hash 170 = .ok (.bipush 116, 2) := dk_16 116 (dk_at dksX1_hash_7 3 rfl rfl)
theorem dX1_hash_172 : decode cX1_hash 172 = .ok (.iastore, 1) := dk_79 (dk_at dksX1_hash_7 5 rfl rfl)
theorem dX1_hash_173 : decode cX1_hash 173 = .ok (.astore_n 3, 1) := dk_78 (dk_at dksX1_hash_7 6 rfl rfl)
theorem dX1_hash_174 : decode cX1_hash 174 = .ok (.aload_n 0, 1) := dk_42 (dk_at dksX1_hash_7 7 rfl rfl)
theorem dX1_hash_175 : decode cX1_hash 175 = .ok (.aload_n 0, 1) := dk_42 (dk_at dksX1_hash_7 8 rfl rfl)
theorem dX1_hash_176 : decode cX1_hash 176 = .ok (.getfield 7, 3) := dk_180 0 7 (dk_at dksX1_hash_7 9 rfl rfl)
theorem dX1_hash_179 : decode cX1_hash 179 = .ok (.aload_n 0, 1) := dk_42 (dk_at dksX1_hash_7 12 rfl rfl)
theorem dX1_hash_180 : decode cX1_hash 180 = .ok (.getfield 13, 3) := dk_180 0 13 (dk_at dksX1_hash_7 13 rfl rfl)
theorem dX1_hash_183 : decode cX1_hash 183 = .ok (.aload_n 0, 1) := dk_42 (dk_at dksX1_hash_7 16 rfl rfl)
theorem dX1_hash_184 : decode cX1_hash 184 = .ok (.getfield 17, 3) := dk_180 0 17 (dk_at dksX1_hash_7 17 rfl rfl)
theorem dX1_hash_187 : decode cX1_hash 187 = .ok (.invokevirtual 47, 3) := dk_182 0 47 (dk_at dksX1_hash_7 20 rfl rfl)
theorem dX1_hash_190 : decode cX1_hash 190 = .ok (.iconst 0, 1) := dk_3 (dk_at dksX1_hash_7 23 rfl rfl)
theorem dX1_hash_191 : decode cX1_hash 191 = .ok (.istore 4, 2) := dk_54 4 (dk_at dksX1_hash_8 0 rfl rfl)
theorem dX1_hash_193 : decode cX1_hash 193 = .ok (.iload 4, 2) := dk_21 4 (dk_at dksX1_hash_8 2 rfl rfl)
theorem dX1_hash_195 : decode cX1_hash 195 = .ok (.iconst 1, 1) := dk_4 (dk_at dksX1_hash_8 4 rfl rfl)
theorem dX1_hash_196 : decode cX1_hash 196 = .ok (.iconst 4, 1) := dk_7 (dk_at dksX1_hash_8 5 rfl rfl)
theorem dX1_hash_197 : decode cX1_hash 197 = .ok (.iload_n 1, 1) := dk_27 (dk_at dksX1_hash_8 6 rfl rfl)
theorem dX1_hash_198 : decode cX1_hash 198 = .ok (.iconst 1, 1) := dk_4 (dk_at dksX1_hash_8 7 rfl rfl)
theorem dX1_hash_199 : decode cX1_hash 199 = .ok (.iand, 1) := dk_126 (dk_at dksX1_hash_8 8 rfl rfl)
theorem dX1_hash_200 : decode cX1_hash 200 = .ok (.iadd, 1) := dk_96 (dk_at dksX1_hash_8 9 rfl rfl)
theorem dX1_hash_201 : decode cX1_hash 201 = .ok (.ishl, 1) := dk_120 (dk_at dksX1_hash_8 10 rfl rfl)
theorem dX1_hash_202 : decode cX1_hash 202 = .ok (.if_icmp .ge 33, 3) := dk_162 0 33 (dk_at dksX1_hash_8 11 rfl rfl)
theorem dX1_hash_205 : decode cX1_hash 205 = .ok (.aload_n 0, 1) := dk_42 (dk_at dksX1_hash_8 14 rfl rfl)
theorem dX1_hash_206 : decode cX1_hash 206 = .ok (.aload_n 0, 1) := dk_42 (dk_at dksX1_hash_8 15 rfl rfl)
theorem dX1_hash_207 : decode cX1_hash 207 = .ok (.getfield 7, 3) := dk_180 0 7 (dk_at dksX1_hash_8 16 rfl rfl)
theorem dX1_hash_210 : decode cX1_hash 210 = .ok (.aload_n 0, 1) := dk_42 (dk_at dksX1_hash_8 19 rfl rfl)
theorem dX1_hash_211 : decode cX1_hash 211 = .ok (.getfield 13, 3) := dk_180 0 13 (dk_at dksX1_hash_8 20 rfl rfl)
theorem dX1_hash_214 : decode cX1_hash 214 = .ok (.aload_n 2, 1) := dk_44 (dk_at dksX1_hash_8 23 rfl rfl)
theorem dX1_hash_215 : decode cX1_hash 215 = .ok (.invokevirtual 47, 3) := dk_182 0 47 (dk_at dksX1_hash_9 0 rfl rfl)
theorem dX1_hash_218 : decode cX1_hash 218 = .ok (.aload_n 0, 1) := dk_42 (dk_at dksX1_hash_9 3 rfl rfl)
theorem dX1_hash_219 : decode cX1_hash 219 = .ok (.aload_n 0, 1) := dk_42 (dk_at dksX1_hash_9 4 rfl rfl)
theorem dX1_hash_220 : decode cX1_hash 220 = .ok (.getfield 17, 3) := dk_180 0 17 (dk_at dksX1_hash_9 5 rfl rfl)
theorem dX1_hash_223 : decode cX1_hash 223 = .ok (.bipush 16, 2) := dk_16 16 (dk_at dksX1_hash_9 8 rfl rfl)
theorem dX1_hash_225 : decode cX1_hash 225 = .ok (.aload_n 2, 1) := dk_44 (dk_at dksX1_hash_9 10 rfl rfl)
theorem dX1_hash_226 : decode cX1_hash 226 = .ok (.invokevirtual 47, 3) := dk_182 0 47 (dk_at dksX1_hash_9 11 rfl rfl)
theorem dX1_hash_229 : decode cX1_hash 229 = .ok (.iinc 4 1, 3) := dk_132 4 1 (dk_at dksX1_hash_9 14 rfl rfl)
theorem dX1_hash_232 : decode cX1_hash 232 = .ok (.goto (-39), 3) := dk_167 255 217 (dk_at dksX1_hash_9 17 rfl rfl)
theorem dX1_hash_235 : decode cX1_hash 235 = .ok (.iconst 0, 1) := dk_3 (dk_at dksX1_hash_9 20 rfl rfl)
theorem dX1_hash_236 : decode cX1_hash 236 = .ok (.istore 4, 2) := dk_54 4 (dk_at dksX1_hash_9 21 rfl rfl)
theorem dX1_hash_238 : decode cX1_hash 238 = .ok (.iload 4, 2) := dk_21 4 (dk_at dksX1_hash_10 0 rfl rfl)
theorem dX1_hash_240 : decode cX1_hash 240 = .ok (.bipush 24, 2) := dk_16 24 (dk_at dksX1_hash_10 2 rfl rfl)
theorem dX1_hash_242 : decode cX1_hash 242 = .ok (.if_icmp .ge 87, 3) := dk_162 0 87 (dk_at dksX1_hash_10 4 rfl rfl)
theorem dX1_hash_245 : decode cX1_hash 245 = .ok (.aload_n 0, 1) := dk_42 (dk_at dksX1_hash_10 7 rfl rfl)
theorem dX1_hash_246 : decode cX1_hash 246 = .ok (.aload_n 3, 1) := dk_45 (dk_at dksX1_hash_10 8 rfl rfl)
theorem dX1_hash_247 : decode cX1_hash 247 = .ok (.bipush 24, 2) := dk_16 24 (dk_at dksX1_hash_10 9 rfl rfl)
theorem dX1_hash_249 : decode cX1_hash 249 = .ok (.iload 4, 2) := dk_21 4 (dk_at dksX1_hash_10 11 rfl rfl)
theorem dX1_hash_251 : decode cX1_hash 251 = .ok (.invokestatic 37, 3) := dk_184 0 37 (dk_at dksX1_hash_10 13 rfl rfl)
theorem dX1_hash_254 : decode cX1_hash 254 = .ok (.putfield 31, 3) := dk_181 0 31 (dk_at dksX1_hash_10 16 rfl rfl)
theorem dX1_hash_257 : decode cX1_hash 257 = .ok (.aload_n 0, 1) := dk_42 (dk_at dksX1_hash_10 19 rfl rfl)
theorem dX1_hash_258 : decode cX1_hash 258 = .ok (.aload_n 3, 1) := dk_45 (dk_at dksX1_hash_10 20 rfl rfl)
theorem dX1_hash_259 : decode cX1_hash 259 = .ok (.bipush 24, 2) := dk_16 24 (dk_at dksX1_hash_10 21 rfl rfl)
theorem dX1_hash_261 : decode cX1_hash 261 = .ok (.iload 4, 2) := dk_21 4 (dk_at dksX1_hash_11 0 rfl rfl)
theorem dX1_hash_263 : decode cX1_hash 263 = .ok (.iconst 4, 1) := dk_7 (dk_at dksX1_hash_11 2 rfl rfl)
theorem dX1_hash_264 : decode cX1_hash 264 = .ok (.iadd, 1) := dk_96 (dk_at dksX1_hash_11 3 rfl rfl)
theorem dX1_hash_265 : decode cX1_hash 265 = .ok (.invokestatic 37, 3) := dk_184 0 37 (dk_at dksX1_hash_11 4 rfl rfl)
theorem dX1_hash_268 : decode cX1_hash 268 = .ok (.putfield 34, 3) := dk_181 0 34 (dk_at dksX1_hash_11 7 rfl rfl)
theorem dX1_hash_271 : decode cX1_hash 271 = .ok (.iconst 0, 1) := dk_3 (dk_at dksX1_hash_11 10 rfl rfl)
theorem dX1_hash_272 : decode cX1_hash 272 = .ok (.istore 5, 2) := dk_54 5 (dk_at dksX1_hash_11 11 rfl rfl)
theorem dX1_hash_274 : decode cX1_hash 274 = .ok (.iload 5, 2) := dk_21 5 (dk_at dksX1_hash_11 13 rfl rfl)
theorem dX1_hash_276 : decode cX1_hash 276 = .ok (.bipush 64, 2) := dk_16 64 (dk_at dksX1_hash_11 15 rfl rfl)
theorem dX1_hash_278 : decode cX1_hash 278 = .ok (.if_icmp .ge 13, 3) := dk_162 0 13 (dk_at dksX1_hash_11 17 rfl rfl)
theorem dX1_hash_281 : decode cX1_hash 281 = .ok (.aload_n 0, 1) := dk_42 (dk_at dksX1_hash_11 20 rfl rfl)
theorem dX1_hash_282 : decode cX1_hash 282 = .ok (.invokevirtual 41, 3) := dk_182 0 41 (dk_at dksX1_hash_11 21 rfl rfl)
theorem dX1_hash_285 : decode cX1_hash 285 = .ok (.iinc 5 1, 3) := dk_132 5 1 (dk_at dksX1_hash_12 0 rfl rfl)
theorem dX1_hash_288 : decode cX1_hash 288 = .ok (.goto (-14), 3) := dk_167 255 242 (dk_at dksX1_hash_12 3 rfl rfl)
theorem dX1_hash_291 : decode cX1_hash 291 = .ok (.aload_n 0, 1) := dk_42 (dk_at dksX1_hash_12 6 rfl rfl)
theorem dX1_hash_292 : decode cX1_hash 292 = .ok (.getfield 20, 3) := dk_180 0 20 (dk_at dksX1_hash_12 7 rfl rfl)
theorem dX1_hash_295 : decode cX1_hash 295 = .ok (.iload 4, 2) := dk_21 4 (dk_at dksX1_hash_12 10 rfl rfl)
theorem dX1_hash_297 : decode cX1_hash 297 = .ok (.aload_n 0, 1) := dk_42 (dk_at dksX1_hash_12 12 rfl rfl)
theorem dX1_hash_298 : decode cX1_hash 298 = .ok (.getfield 31, 3) := dk_180 0 31 (dk_at dksX1_hash_12 13 rfl rfl)
theorem dX1_hash_301 : decode cX1_hash 301 = .ok (.invokestatic 27, 3) := dk_184 0 27 (dk_at dksX1_hash_12 16 rfl rfl)
theorem dX1_hash_304 : decode cX1_hash 304 = .ok (.aload_n 0, 1) := dk_42 (dk_at dksX1_hash_12 19 rfl rfl)
theorem dX1_hash_305 : decode cX1_hash 305 = .ok (.getfield 20, 3) := dk_180 0 20 (dk_at dksX1_hash_12 20 rfl rfl)
theorem dX1_hash_308 : decode cX1_hash 308 = .ok (.iload 4, 2) := dk_21 4 (dk_at dksX1_hash_13 0 rfl rfl)
theorem dX1_hash_310 : decode cX1_hash 310 = .ok (.iconst 4, 1) := dk_7 (dk_at dksX1_hash_13 2 rfl rfl)
theorem dX1_hash_311 : decode cX1_hash 311 = .ok (.iadd, 1) := dk_96 (dk_at dksX1_hash_13 3 rfl rfl)
theorem dX1_hash_312 : decode cX1_hash 312 = .ok (.aload_n 0, 1) := dk_42 (dk_at dksX1_hash_13 4 rfl rfl)
theorem dX1_hash_313 : decode cX1_hash 313 = .ok (.getfield 34, 3) := dk_180 0 34 (dk_at dksX1_hash_13 5 rfl rfl)
theorem dX1_hash_316 : decode cX1_hash 316 = .ok (.invokestatic 27, 3) := dk_184 0 27 (dk_at dksX1_hash_13 8 rfl rfl)
theorem dX1_hash_319 : decode cX1_hash 319 = .ok (.iload 4, 2) := dk_21 4 (dk_at dksX1_hash_13 11 rfl rfl)
theorem dX1_hash_321 : decode cX1_hash 321 = .ok (.bipush 8, 2) := dk_16 8 (dk_at dksX1_hash_13 13 rfl rfl)
theorem dX1_hash_323 : decode cX1_hash 323 = .ok (.iadd, 1) := dk_96 (dk_at dksX1_hash_13 15 rfl rfl)
theorem dX1_hash_324 : decode cX1_hash 324 = .ok (.istore 4, 2) := dk_54 4 (dk_at dksX1_hash_13 16 rfl rfl)
theorem dX1_hash_326 : decode cX1_hash 326 = .ok (.goto (-88), 3) := dk_167 255 168 (dk_at dksX1_hash_13 18 rfl rfl)
theorem dX1_hash_329 : decode cX1_hash 329 = .ok (.return_, 1) := dk_177 (dk_at dksX1_hash_13 21 rfl rfl)
abbrev cX1_spread : ByteArray := prog_4_method_8_code
def yX1_spread : MethodName := ⟨RX1, "spread", "([II[I)V"⟩
def dkwX1_spread_5 : List UInt8 := [180, 0, 23, 21, 4, 4, 96, 42, 180, 0, 34, 79, 21, 4, 5, 96, 54, 4, 167, 255, 174, 177]
abbrev dktX1_spread_5 : List UInt8 := dkwX1_spread_5 ++ []
def dkwX1_spread_4 : List UInt8 := [184, 0, 37, 130, 181, 0, 34, 42, 182, 0, 41, 42, 180, 0, 23, 21, 4, 42, 180, 0, 31, 79, 42]
abbrev dktX1_spread_4 : List UInt8 := dkwX1_spread_4 ++ dktX1_spread_5
def dkwX1_spread_3 : List UInt8 := [21, 4, 104, 184, 0, 37, 130, 181, 0, 31, 42, 42, 180, 0, 34, 45, 16, 16, 7, 21, 4, 104, 7, 96]
abbrev dktX1_spread_3 : List UInt8 := dkwX1_spread_3 ++ dktX1_spread_4
def dkwX1_spread_2 : List UInt8 := [181, 0, 34, 3, 54, 4, 21, 4, 17, 4, 18, 162, 0, 80, 42, 42, 180, 0, 31, 45, 16, 16, 7]
abbrev dktX1_spread_2 : List UInt8 := dkwX1_spread_2 ++ dktX1_spread_3
def dkwX1_spread_1 : List UInt8 := [28, 7, 21, 4, 104, 184, 0, 37, 130, 79, 132, 4, 1, 167, 255, 222, 42, 3, 181, 0, 31, 42, 3]
abbrev dktX1_spread_1 : List UInt8 := dkwX1_spread_1 ++ dktX1_spread_2
def dkwX1_spread_0 : List UInt8 := [3, 54, 4, 21, 4, 16, 18, 162, 0, 33, 42, 180, 0, 23, 21, 4, 42, 180, 0, 23, 21, 4, 46, 43]
abbrev dktX1_spread_0 : List UInt8 := dkwX1_spread_0 ++ dktX1_spread_1
theorem dksX1_spread_0 : cX1_spread.data.toList.drop 0 = dktX1_spread_0 := by decide +kernel
theorem dksX1_spread_1 : cX1_spread.data.toList.drop 24 = dktX1_spread_1 := dk_seg dksX1_spread_0 24 rfl rfl
theorem dksX1_spread_2 : cX1_spread.data.toList.drop 47 = dktX1_spread_2 := dk_seg dksX1_spread_1 23 rfl rfl
theorem dksX1_spread_3 : cX1_spread.data.toList.drop 70 = dktX1_spread_3 := dk_seg dksX1_spread_2 23 rfl rfl
theorem dksX1_spread_4 : cX1_spread.data.toList.drop 94 = dktX1_spread_4 := dk_seg dksX1_spread_3 24 rfl rfl
theorem dksX1_spread_5 : cX1_spread.data.toList.drop 117 = dktX1_spread_5 := dk_seg dksX1_spread_4 23 rfl rfl
theorem dX1_spread_0 : decode cX1_spread 0 = .ok (.iconst 0, 1) := dk_3 (dk_at dksX1_spread_0 0 rfl rfl)
theorem dX1_spread_1 : decode cX1_spread 1 = .ok (.istore 4, 2) := dk_54 4 (dk_at dksX1_spread_0 1 rfl rfl)
theorem dX1_spread_3 : decode cX1_spread 3 = .ok (.iload 4, 2) := dk_21 4 (dk_at dksX1_spread_0 3 rfl rfl)
theorem dX1_spread_5 : decode cX1_spread 5 = .ok (.bipush 18, 2) := dk_16 18 (dk_at dksX1_spread_0 5 rfl rfl)
theorem dX1_spread_7 : decode cX1_spread 7 = .ok (.if_icmp .ge 33, 3) := dk_162 0 33 (dk_at dksX1_spread_0 7 rfl rfl)
theorem dX1_spread_10 : decode cX1_spread 10 = .ok (.aload_n 0, 1) := dk_42 (dk_at dksX1_spread_0 10 rfl rfl)
theorem dX1_spread_11 : decode cX1_spread 11 = .ok (.getfield 23, 3) := dk_180 0 23 (dk_at dksX1_spread_0 11 rfl rfl)
theorem dX1_spread_14 : decode cX1_spread 14 = .ok (.iload 4, 2) := dk_21 4 (dk_at dksX1_spread_0 14 rfl rfl)
theorem dX1_spread_16 : decode cX1_spread 16 = .ok (.aload_n 0, 1) := dk_42 (dk_at dksX1_spread_0 16 rfl rfl)
theorem dX1_spread_17 : decode cX1_spread 17 = .ok (.getfield 23, 3) := dk_180 0 23 (dk_at dksX1_spread_0 17 rfl rfl)
theorem dX1_spread_20 : decode cX1_spread 20 = .ok (.iload 4, 2) := dk_21 4 (dk_at dksX1_spread_0 20 rfl rfl)
theorem dX1_spread_22 : decode cX1_spread 22 = .ok (.iaload, 1) := dk_46 (dk_at dksX1_spread_0 22 rfl rfl)
theorem dX1_spread_23 : decode cX1_spread 23 = .ok (.aload_n 1, 1) := dk_43 (dk_at dksX1_spread_0 23 rfl rfl)
theorem dX1_spread_24 : decode cX1_spread 24 = .ok (.iload_n 2, 1) := dk_28 (dk_at dksX1_spread_1 0 rfl rfl)
theorem dX1_spread_25 : decode cX1_spread 25 = .ok (.iconst 4, 1) := dk_7 (dk_at dksX1_spread_1 1 rfl rfl)
theorem dX1_spread_26 : decode cX1_spread 26 = .ok (.iload 4, 2) := dk_21 4 (dk_at dksX1_spread_1 2 rfl rfl)
theorem dX1_spread_28 : decode cX1_spread 28 = .ok (.imul, 1) := dk_104 (dk_at dksX1_spread_1 4 rfl rfl)
theorem dX1_spread_29 : decode cX1_spread 29 = .ok (.invokestatic 37, 3) := dk_184 0 37 (dk_at dksX1_spread_1 5 rfl rfl)
theorem dX1_spread_32 : decode cX1_spread 32 = .ok (.ixor, 1) := dk_130 (dk_at dksX1_spread_1 8 rfl rfl)
theorem dX1_spread_33 : decode cX1_spread 33 = .ok (.iastore, 1) := dk_79 (dk_at dksX1_spread_1 9 rfl rfl)
theorem dX1_spread_34 : decode cX1_spread 34 = .ok (.iinc 4 1, 3) := dk_132 4 1 (dk_at dksX1_spread_1 10 rfl rfl)
theorem dX1_spread_37 : decode cX1_spread 37 = .ok (.goto (-34), 3) := dk_167 255 222 (dk_at dksX1_spread_1 13 rfl rfl)
theorem dX1_spread_40 : decode cX1_spread 40 = .ok (.aload_n 0, 1) := dk_42 (dk_at dksX1_spread_1 16 rfl rfl)
theorem dX1_spread_41 : decode cX1_spread 41 = .ok (.iconst 0, 1) := dk_3 (dk_at dksX1_spread_1 17 rfl rfl)
theorem dX1_spread_42 : decode cX1_spread 42 = .ok (.putfield 31, 3) := dk_181 0 31 (dk_at dksX1_spread_1 18 rfl rfl)
theorem dX1_spread_45 : decode cX1_spread 45 = .ok (.aload_n 0, 1) := dk_42 (dk_at dksX1_spread_1 21 rfl rfl)
theorem dX1_spread_46 : decode cX1_spread 46 = .ok (.iconst 0, 1) := dk_3 (dk_at dksX1_spread_1 22 rfl rfl)
theorem dX1_spread_47 : decode cX1_spread 47 = .ok (.putfield 34, 3) := dk_181 0 34 (dk_at dksX1_spread_2 0 rfl rfl)
theorem dX1_spread_50 : decode cX1_spread 50 = .ok (.iconst 0, 1) := dk_3 (dk_at dksX1_spread_2 3 rfl rfl)
theorem dX1_spread_51 : decode cX1_spread 51 = .ok (.istore 4, 2) := dk_54 4 (dk_at dksX1_spread_2 4 rfl rfl)
theorem dX1_spread_53 : decode cX1_spread 53 = .ok (.iload 4, 2) := dk_21 4 (dk_at dksX1_spread_2 6 rfl rfl)
theorem dX1_spread_55 : decode cX1_spread 55 = .ok (.sipush 1042, 3) := dk_17 4 18 (dk_at dksX1_spread_2 8 rfl rfl)
theorem dX1_spread_58 : decode cX1_spread 58 = .ok (.if_icmp .ge 80, 3) := dk_162 0 80 (dk_at dksX1_spread_2 11 rfl rfl)
theorem dX1_spread_61 : decode cX1_spread 61 = .ok (.aload_n 0, 1) := dk_42 (dk_at dksX1_spread_2 14 rfl rfl)
theorem dX1_spread_62 : decode cX1_spread 62 = .ok (.aload_n 0, 1) := dk_42 (dk_at dksX1_spread_2 15 rfl rfl)
theorem dX1_spread_63 : decode cX1_spread 63 = .ok (.getfield 31, 3) := dk_180 0 31 (dk_at dksX1_spread_2 16 rfl rfl)
theorem dX1_spread_66 : decode cX1_spread 66 = .ok (.aload_n 3, 1) := dk_45 (dk_at dksX1_spread_2 19 rfl rfl)
theorem dX1_spread_67 : decode cX1_spread 67 = .ok (.bipush 16, 2) := dk_16 16 (dk_at dksX1_spread_2 20 rfl rfl)
theorem dX1_spread_69 : decode cX1_spread 69 = .ok (.iconst 4, 1) := dk_7 (dk_at dksX1_spread_2 22 rfl rfl)
theorem dX1_spread_70 : decode cX1_spread 70 = .ok (.iload 4, 2) := dk_21 4 (dk_at dksX1_spread_3 0 rfl rfl)
theorem dX1_spread_72 : decode cX1_spread 72 = .ok (.imul, 1) := dk_104 (dk_at dksX1_spread_3 2 rfl rfl)
theorem dX1_spread_73 : decode cX1_spread 73 = .ok (.invokestatic 37, 3) := dk_184 0 37 (dk_at dksX1_spread_3 3 rfl rfl)
theorem dX1_spread_76 : decode cX1_spread 76 = .ok (.ixor, 1) := dk_130 (dk_at dksX1_spread_3 6 rfl rfl)
theorem dX1_spread_77 : decode cX1_spread 77 = .ok (.putfield 31, 3) := dk_181 0 31 (dk_at dksX1_spread_3 7 rfl rfl)
theorem dX1_spread_80 : decode cX1_spread 80 = .ok (.aload_n 0, 1) := dk_42 (dk_at dksX1_spread_3 10 rfl rfl)
theorem dX1_spread_81 : decode cX1_spread 81 = .ok (.aload_n 0, 1) := dk_42 (dk_at dksX1_spread_3 11 rfl rfl)
theorem dX1_spread_82 : decode cX1_spread 82 = .ok (.getfield 34, 3) := dk_180 0 34 (dk_at dksX1_spread_3 12 rfl rfl)
theorem dX1_spread_85 : decode cX1_spread 85 = .ok (.aload_n 3, 1) := dk_45 (dk_at dksX1_spread_3 15 rfl rfl)
theorem dX1_spread_86 : decode cX1_spread 86 = .ok (.bipush 16, 2) := dk_16 16 (dk_at dksX1_spread_3 16 rfl rfl)
theorem dX1_spread_88 : decode cX1_spread 88 = .ok (.iconst 4, 1) := dk_7 (dk_at dksX1_spread_3 18 rfl rfl)
theorem dX1_spread_89 : decode cX1_spread 89 = .ok (.iload 4, 2) := dk_21 4 (dk_at dksX1_spread_3 19 rfl rfl)
theorem dX1_spread_91 : decode cX1_spread 91 = .ok (.imul, 1) := dk_104 (dk_at dksX1_spread_3 21 rfl rfl)
theorem dX1_spread_92 : decode cX1_spread 92 = .ok (.iconst 4, 1) := dk_7 (dk_at dksX1_spread_3 22 rfl rfl)
theorem dX1_spread_93 : decode cX1_spread 93 = .ok (.iadd, 1) := dk_96 (dk_at dksX1_spread_3 23 rfl rfl)
theorem dX1_spread_94 : decode cX1_spread 94 = .ok (.invokestatic 37, 3) := dk_184 0 37 (dk_at dksX1_spread_4 0 rfl rfl)
theorem dX1_spread_97 : decode cX1_spread 97 = .ok (.ixor, 1) := dk_130 (dk_at dksX1_spread_4 3 rfl rfl)
theorem dX1_spread_98 : decode cX1_spread 98 = .ok (.putfield 34, 3) := dk_181 0 34 (dk_at dksX1_spread_4 4 rfl rfl)
theorem dX1_spread_101 : decode cX1_spread 101 = .ok (.aload_n 0, 1) := dk_42 (dk_at dksX1_spread_4 7 rfl rfl)
theorem dX1_spread_102 : decode cX1_spread 102 = .ok (.invokevirtual 41, 3) := dk_182 0 41 (dk_at dksX1_spread_4 8 rfl rfl)
theorem dX1_spread_105 : decode cX1_spread 105 = .ok (.aload_n 0, 1) := dk_42 (dk_at dksX1_spread_4 11 rfl rfl)
theorem dX1_spread_106 : decode cX1_spread 106 = .ok (.getfield 23, 3) := dk_180 0 23 (dk_at dksX1_spread_4 12 rfl rfl)
theorem dX1_spread_109 : decode cX1_spread 109 = .ok (.iload 4, 2) := dk_21 4 (dk_at dksX1_spread_4 15 rfl rfl)
theorem dX1_spread_111 : decode cX1_spread 111 = .ok (.aload_n 0, 1) := dk_42 (dk_at dksX1_spread_4 17 rfl rfl)
theorem dX1_spread_112 : decode cX1_spread 112 = .ok (.getfield 31, 3) := dk_180 0 31 (dk_at dksX1_spread_4 18 rfl rfl)
theorem dX1_spread_115 : decode cX1_spread 115 = .ok (.iastore, 1) := dk_79 (dk_at dksX1_spread_4 21 rfl rfl)
theorem dX1_spread_116 : decode cX1_spread 116 = .ok (.aload_n 0, 1) := dk_42 (dk_at dksX1_spread_4 22 rfl rfl)
theorem dX1_spread_117 : decode cX1_spread 117 = .ok (.getfield 23, 3) := dk_180 0 23 (dk_at dksX1_spread_5 0 rfl rfl)
theorem dX1_spread_120 : decode cX1_spread 120 = .ok (.iload 4, 2) := dk_21 4 (dk_at dksX1_spread_5 3 rfl rfl)
theorem dX1_spread_122 : decode cX1_spread 122 = .ok (.iconst 1, 1) := dk_4 (dk_at dksX1_spread_5 5 rfl rfl)
theorem dX1_spread_123 : decode cX1_spread 123 = .ok (.iadd, 1) := dk_96 (dk_at dksX1_spread_5 6 rfl rfl)
theorem dX1_spread_124 : decode cX1_spread 124 = .ok (.aload_n 0, 1) := dk_42 (dk_at dksX1_spread_5 7 rfl rfl)
theorem dX1_spread_125 : decode cX1_spread 125 = .ok (.getfield 34, 3) := dk_180 0 34 (dk_at dksX1_spread_5 8 rfl rfl)
theorem dX1_spread_128 : decode cX1_spread 128 = .ok (.iastore, 1) := dk_79 (dk_at dksX1_spread_5 11 rfl rfl)
theorem dX1_spread_129 : decode cX1_spread 129 = .ok (.iload 4, 2) := dk_21 4 (dk_at dksX1_spread_5 12 rfl rfl)
theorem dX1_spread_131 : decode cX1_spread 131 = .ok (.iconst 2, 1) := dk_5 (dk_at dksX1_spread_5 14 rfl rfl)
theorem dX1_spread_132 : decode cX1_spread 132 = .ok (.iadd, 1) := dk_96 (dk_at dksX1_spread_5 15 rfl rfl)
theorem dX1_spread_133 : decode cX1_spread 133 = .ok (.istore 4, 2) := dk_54 4 (dk_at dksX1_spread_5 16 rfl rfl)
theorem dX1_spread_135 : decode cX1_spread 135 = .ok (.goto (-82), 3) := dk_167 255 174 (dk_at dksX1_spread_5 18 rfl rfl)
theorem dX1_spread_138 : decode cX1_spread 138 = .ok (.return_, 1) := dk_177 (dk_at dksX1_spread_5 21 rfl rfl)
abbrev cX1_four : ByteArray := prog_4_method_7_code
def yX1_four : MethodName := ⟨RX1, "four", "([III)I"⟩
def dkwX1_four_1 : List UInt8 := [62, 132, 4, 1, 167, 255, 233, 29, 172]
abbrev dktX1_four_1 : List UInt8 := dkwX1_four_1 ++ []
def dkwX1_four_0 : List UInt8 := [3, 62, 3, 54, 4, 21, 4, 7, 162, 0, 23, 29, 16, 8, 120, 42, 28, 21, 4, 96, 27, 112, 46, 128]
abbrev dktX1_four_0 : List UInt8 := dkwX1_four_0 ++ dktX1_four_1
theorem dksX1_four_0 : cX1_four.data.toList.drop 0 = dktX1_four_0 := by decide +kernel
theorem dksX1_four_1 : cX1_four.data.toList.drop 24 = dktX1_four_1 := dk_seg dksX1_four_0 24 rfl rfl
theorem dX1_four_0 : decode cX1_four 0 = .ok (.iconst 0, 1) := dk_3 (dk_at dksX1_four_0 0 rfl rfl)
theorem dX1_four_1 : decode cX1_four 1 = .ok (.istore_n 3, 1) := dk_62 (dk_at dksX1_four_0 1 rfl rfl)
theorem dX1_four_2 : decode cX1_four 2 = .ok (.iconst 0, 1) := dk_3 (dk_at dksX1_four_0 2 rfl rfl)
theorem dX1_four_3 : decode cX1_four 3 = .ok (.istore 4, 2) := dk_54 4 (dk_at dksX1_four_0 3 rfl rfl)
theorem dX1_four_5 : decode cX1_four 5 = .ok (.iload 4, 2) := dk_21 4 (dk_at dksX1_four_0 5 rfl rfl)
theorem dX1_four_7 : decode cX1_four 7 = .ok (.iconst 4, 1) := dk_7 (dk_at dksX1_four_0 7 rfl rfl)
theorem dX1_four_8 : decode cX1_four 8 = .ok (.if_icmp .ge 23, 3) := dk_162 0 23 (dk_at dksX1_four_0 8 rfl rfl)
theorem dX1_four_11 : decode cX1_four 11 = .ok (.iload_n 3, 1) := dk_29 (dk_at dksX1_four_0 11 rfl rfl)
theorem dX1_four_12 : decode cX1_four 12 = .ok (.bipush 8, 2) := dk_16 8 (dk_at dksX1_four_0 12 rfl rfl)
theorem dX1_four_14 : decode cX1_four 14 = .ok (.ishl, 1) := dk_120 (dk_at dksX1_four_0 14 rfl rfl)
theorem dX1_four_15 : decode cX1_four 15 = .ok (.aload_n 0, 1) := dk_42 (dk_at dksX1_four_0 15 rfl rfl)
theorem dX1_four_16 : decode cX1_four 16 = .ok (.iload_n 2, 1) := dk_28 (dk_at dksX1_four_0 16 rfl rfl)
theorem dX1_four_17 : decode cX1_four 17 = .ok (.iload 4, 2) := dk_21 4 (dk_at dksX1_four_0 17 rfl rfl)
theorem dX1_four_19 : decode cX1_four 19 = .ok (.iadd, 1) := dk_96 (dk_at dksX1_four_0 19 rfl rfl)
theorem dX1_four_20 : decode cX1_four 20 = .ok (.iload_n 1, 1) := dk_27 (dk_at dksX1_four_0 20 rfl rfl)
theorem dX1_four_21 : decode cX1_four 21 = .ok (.irem, 1) := dk_112 (dk_at dksX1_four_0 21 rfl rfl)
theorem dX1_four_22 : decode cX1_four 22 = .ok (.iaload, 1) := dk_46 (dk_at dksX1_four_0 22 rfl rfl)
theorem dX1_four_23 : decode cX1_four 23 = .ok (.ior, 1) := dk_128 (dk_at dksX1_four_0 23 rfl rfl)
theorem dX1_four_24 : decode cX1_four 24 = .ok (.istore_n 3, 1) := dk_62 (dk_at dksX1_four_1 0 rfl rfl)
theorem dX1_four_25 : decode cX1_four 25 = .ok (.iinc 4 1, 3) := dk_132 4 1 (dk_at dksX1_four_1 1 rfl rfl)
theorem dX1_four_28 : decode cX1_four 28 = .ok (.goto (-23), 3) := dk_167 255 233 (dk_at dksX1_four_1 4 rfl rfl)
theorem dX1_four_31 : decode cX1_four 31 = .ok (.iload_n 3, 1) := dk_29 (dk_at dksX1_four_1 7 rfl rfl)
theorem dX1_four_32 : decode cX1_four 32 = .ok (.ireturn, 1) := dk_172 (dk_at dksX1_four_1 8 rfl rfl)
abbrev cX1_lock : ByteArray := prog_4_method_6_code
def yX1_lock : MethodName := ⟨RX1, "lock", "()V"⟩
def dkwX1_lock_5 : List UInt8 := [181, 0, 31, 42, 27, 42, 180, 0, 23, 16, 16, 46, 130, 181, 0, 34, 177]
abbrev dktX1_lock_5 : List UInt8 := dkwX1_lock_5 ++ []
def dkwX1_lock_4 : List UInt8 := [130, 54, 5, 27, 61, 21, 5, 60, 132, 3, 1, 167, 255, 162, 42, 28, 42, 180, 0, 23, 16, 17, 46, 130]
abbrev dktX1_lock_4 : List UInt8 := dkwX1_lock_4 ++ dktX1_lock_5
def dkwX1_lock_3 : List UInt8 := [126, 96, 46, 130, 42, 180, 0, 23, 17, 3, 18, 27, 17, 0, 255, 126, 96, 46, 96, 54, 4, 28, 21, 4]
abbrev dktX1_lock_3 : List UInt8 := dkwX1_lock_3 ++ dktX1_lock_4
def dkwX1_lock_2 : List UInt8 := [16, 16, 124, 17, 0, 255, 126, 96, 46, 96, 42, 180, 0, 23, 17, 2, 18, 27, 16, 8, 124, 17, 0, 255]
abbrev dktX1_lock_2 : List UInt8 := dkwX1_lock_2 ++ dktX1_lock_3
def dkwX1_lock_1 : List UInt8 := [46, 130, 60, 42, 180, 0, 23, 16, 18, 27, 16, 24, 124, 96, 46, 42, 180, 0, 23, 17, 1, 18, 27]
abbrev dktX1_lock_1 : List UInt8 := dkwX1_lock_1 ++ dktX1_lock_2
def dkwX1_lock_0 : List UInt8 := [42, 180, 0, 31, 60, 42, 180, 0, 34, 61, 3, 62, 29, 16, 16, 162, 0, 94, 27, 42, 180, 0, 23, 29]
abbrev dktX1_lock_0 : List UInt8 := dkwX1_lock_0 ++ dktX1_lock_1
theorem dksX1_lock_0 : cX1_lock.data.toList.drop 0 = dktX1_lock_0 := by decide +kernel
theorem dksX1_lock_1 : cX1_lock.data.toList.drop 24 = dktX1_lock_1 := dk_seg dksX1_lock_0 24 rfl rfl
theorem dksX1_lock_2 : cX1_lock.data.toList.drop 47 = dktX1_lock_2 := dk_seg dksX1_lock_1 23 rfl rfl
theorem dksX1_lock_3 : cX1_lock.data.toList.drop 71 = dktX1_lock_3 := dk_seg dksX1_lock_2 24 rfl rfl
theorem dksX1_lock_4 : cX1_lock.data.toList.drop 95 = dktX1_lock_4 := dk_seg dksX1_lock_3 24 rfl rfl
theorem dksX1_lock_5 : cX1_lock.data.toList.drop 119 = dktX1_lock_5 := dk_seg dksX1_lock_4 24 rfl rfl
theorem dX1_lock_0 : decode cX1_lock 0 = .ok (.aload_n 0, 1) := dk_42 (dk_at dksX1_lock_0 0 rfl rfl)
theorem dX1_lock_1 : decode cX1_lock 1 = .ok (.getfield 31, 3) := dk_180 0 31 (dk_at dksX1_lock_0 1 rfl rfl)
theorem dX1_lock_4 : decode cX1_lock 4 = .ok (.istore_n 1, 1) := dk_60 (dk_at dksX1_lock_0 4 rfl rfl)
theorem dX1_lock_5 : decode cX1_lock 5 = .ok (.aload_n 0, 1) := dk_42 (dk_at dksX1_lock_0 5 rfl rfl)
theorem dX1_lock_6 : decode cX1_lock 6 = .ok (.getfield 34, 3) := dk_180 0 34 (dk_at dksX1_lock_0 6 rfl rfl)
theorem dX1_lock_9 : decode cX1_lock 9 = .ok (.istore_n 2, 1) := dk_61 (dk_at dksX1_lock_0 9 rfl rfl)
theorem dX1_lock_10 : decode cX1_lock 10 = .ok (.iconst 0, 1) := dk_3 (dk_at dksX1_lock_0 10 rfl rfl)
theorem dX1_lock_11 : decode cX1_lock 11 = .ok (.istore_n 3, 1) := dk_62 (dk_at dksX1_lock_0 11 rfl rfl)
theorem dX1_lock_12 : decode cX1_lock 12 = .ok (.iload_n 3, 1) := dk_29 (dk_at dksX1_lock_0 12 rfl rfl)
theorem dX1_lock_13 : decode cX1_lock 13 = .ok (.bipush 16, 2) := dk_16 16 (dk_at dksX1_lock_0 13 rfl rfl)
theorem dX1_lock_15 : decode cX1_lock 15 = .ok (.if_icmp .ge 94, 3) := dk_162 0 94 (dk_at dksX1_lock_0 15 rfl rfl)
theorem dX1_lock_18 : decode cX1_lock 18 = .ok (.iload_n 1, 1) := dk_27 (dk_at dksX1_lock_0 18 rfl rfl)
theorem dX1_lock_19 : decode cX1_lock 19 = .ok (.aload_n 0, 1) := dk_42 (dk_at dksX1_lock_0 19 rfl rfl)
theorem dX1_lock_20 : decode cX1_lock 20 = .ok (.getfield 23, 3) := dk_180 0 23 (dk_at dksX1_lock_0 20 rfl rfl)
theorem dX1_lock_23 : decode cX1_lock 23 = .ok (.iload_n 3, 1) := dk_29 (dk_at dksX1_lock_0 23 rfl rfl)
theorem dX1_lock_24 : decode cX1_lock 24 = .ok (.iaload, 1) := dk_46 (dk_at dksX1_lock_1 0 rfl rfl)
theorem dX1_lock_25 : decode cX1_lock 25 = .ok (.ixor, 1) := dk_130 (dk_at dksX1_lock_1 1 rfl rfl)
theorem dX1_lock_26 : decode cX1_lock 26 = .ok (.istore_n 1, 1) := dk_60 (dk_at dksX1_lock_1 2 rfl rfl)
theorem dX1_lock_27 : decode cX1_lock 27 = .ok (.aload_n 0, 1) := dk_42 (dk_at dksX1_lock_1 3 rfl rfl)
theorem dX1_lock_28 : decode cX1_lock 28 = .ok (.getfield 23, 3) := dk_180 0 23 (dk_at dksX1_lock_1 4 rfl rfl)
theorem dX1_lock_31 : decode cX1_lock 31 = .ok (.bipush 18, 2) := dk_16 18 (dk_at dksX1_lock_1 7 rfl rfl)
theorem dX1_lock_33 : decode cX1_lock 33 = .ok (.iload_n 1, 1) := dk_27 (dk_at dksX1_lock_1 9 rfl rfl)
theorem dX1_lock_34 : decode cX1_lock 34 = .ok (.bipush 24, 2) := dk_16 24 (dk_at dksX1_lock_1 10 rfl rfl)
theorem dX1_lock_36 : decode cX1_lock 36 = .ok (.iushr, 1) := dk_124 (dk_at dksX1_lock_1 12 rfl rfl)
theorem dX1_lock_37 : decode cX1_lock 37 = .ok (.iadd, 1) := dk_96 (dk_at dksX1_lock_1 13 rfl rfl)
theorem dX1_lock_38 : decode cX1_lock 38 = .ok (.iaload, 1) := dk_46 (dk_at dksX1_lock_1 14 rfl rfl)
theorem dX1_lock_39 : decode cX1_lock 39 = .ok (.aload_n 0, 1) := dk_42 (dk_at dksX1_lock_1 15 rfl rfl)
theorem dX1_lock_40 : decode cX1_lock 40 = .ok (.getfield 23, 3) := dk_180 0 23 (dk_at dksX1_lock_1 16 rfl rfl)
theorem dX1_lock_43 : decode cX1_lock 43 = .ok (.sipush 274, 3) := dk_17 1 18 (dk_at dksX1_lock_1 19 rfl rfl)
theorem dX1_lock_46 : decode cX1_lock 46 = .ok (.iload_n 1, 1) := dk_27 (dk_at dksX1_lock_1 22 rfl rfl)
theorem dX1_lock_47 : decode cX1_lock 47 = .ok (.bipush 16, 2) := dk_16 16 (dk_at dksX1_lock_2 0 rfl rfl)
theorem dX1_lock_49 : decode cX1_lock 49 = .ok (.iushr, 1) := dk_124 (dk_at dksX1_lock_2 2 rfl rfl)
theorem dX1_lock_50 : decode cX1_lock 50 = .ok (.sipush 255, 3) := dk_17 0 255 (dk_at dksX1_lock_2 3 rfl rfl)
theorem dX1_lock_53 : decode cX1_lock 53 = .ok (.iand, 1) := dk_126 (dk_at dksX1_lock_2 6 rfl rfl)
theorem dX1_lock_54 : decode cX1_lock 54 = .ok (.iadd, 1) := dk_96 (dk_at dksX1_lock_2 7 rfl rfl)
theorem dX1_lock_55 : decode cX1_lock 55 = .ok (.iaload, 1) := dk_46 (dk_at dksX1_lock_2 8 rfl rfl)
theorem dX1_lock_56 : decode cX1_lock 56 = .ok (.iadd, 1) := dk_96 (dk_at dksX1_lock_2 9 rfl rfl)
theorem dX1_lock_57 : decode cX1_lock 57 = .ok (.aload_n 0, 1) := dk_42 (dk_at dksX1_lock_2 10 rfl rfl)
theorem dX1_lock_58 : decode cX1_lock 58 = .ok (.getfield 23, 3) := dk_180 0 23 (dk_at dksX1_lock_2 11 rfl rfl)
theorem dX1_lock_61 : decode cX1_lock 61 = .ok (.sipush 530, 3) := dk_17 2 18 (dk_at dksX1_lock_2 14 rfl rfl)
theorem dX1_lock_64 : decode cX1_lock 64 = .ok (.iload_n 1, 1) := dk_27 (dk_at dksX1_lock_2 17 rfl rfl)
theorem dX1_lock_65 : decode cX1_lock 65 = .ok (.bipush 8, 2) := dk_16 8 (dk_at dksX1_lock_2 18 rfl rfl)
theorem dX1_lock_67 : decode cX1_lock 67 = .ok (.iushr, 1) := dk_124 (dk_at dksX1_lock_2 20 rfl rfl)
theorem dX1_lock_68 : decode cX1_lock 68 = .ok (.sipush 255, 3) := dk_17 0 255 (dk_at dksX1_lock_2 21 rfl rfl)
theorem dX1_lock_71 : decode cX1_lock 71 = .ok (.iand, 1) := dk_126 (dk_at dksX1_lock_3 0 rfl rfl)
theorem dX1_lock_72 : decode cX1_lock 72 = .ok (.iadd, 1) := dk_96 (dk_at dksX1_lock_3 1 rfl rfl)
theorem dX1_lock_73 : decode cX1_lock 73 = .ok (.iaload, 1) := dk_46 (dk_at dksX1_lock_3 2 rfl rfl)
theorem dX1_lock_74 : decode cX1_lock 74 = .ok (.ixor, 1) := dk_130 (dk_at dksX1_lock_3 3 rfl rfl)
theorem dX1_lock_75 : decode cX1_lock 75 = .ok (.aload_n 0, 1) := dk_42 (dk_at dksX1_lock_3 4 rfl rfl)
theorem dX1_lock_76 : decode cX1_lock 76 = .ok (.getfield 23, 3) := dk_180 0 23 (dk_at dksX1_lock_3 5 rfl rfl)
theorem dX1_lock_79 : decode cX1_lock 79 = .ok (.sipush 786, 3) := dk_17 3 18 (dk_at dksX1_lock_3 8 rfl rfl)
theorem dX1_lock_82 : decode cX1_lock 82 = .ok (.iload_n 1, 1) := dk_27 (dk_at dksX1_lock_3 11 rfl rfl)
theorem dX1_lock_83 : decode cX1_lock 83 = .ok (.sipush 255, 3) := dk_17 0 255 (dk_at dksX1_lock_3 12 rfl rfl)
theorem dX1_lock_86 : decode cX1_lock 86 = .ok (.iand, 1) := dk_126 (dk_at dksX1_lock_3 15 rfl rfl)
theorem dX1_lock_87 : decode cX1_lock 87 = .ok (.iadd, 1) := dk_96 (dk_at dksX1_lock_3 16 rfl rfl)
theorem dX1_lock_88 : decode cX1_lock 88 = .ok (.iaload, 1) := dk_46 (dk_at dksX1_lock_3 17 rfl rfl)
theorem dX1_lock_89 : decode cX1_lock 89 = .ok (.iadd, 1) := dk_96 (dk_at dksX1_lock_3 18 rfl rfl)
theorem dX1_lock_90 : decode cX1_lock 90 = .ok (.istore 4, 2) := dk_54 4 (dk_at dksX1_lock_3 19 rfl rfl)
theorem dX1_lock_92 : decode cX1_lock 92 = .ok (.iload_n 2, 1) := dk_28 (dk_at dksX1_lock_3 21 rfl rfl)
theorem dX1_lock_93 : decode cX1_lock 93 = .ok (.iload 4, 2) := dk_21 4 (dk_at dksX1_lock_3 22 rfl rfl)
theorem dX1_lock_95 : decode cX1_lock 95 = .ok (.ixor, 1) := dk_130 (dk_at dksX1_lock_4 0 rfl rfl)
theorem dX1_lock_96 : decode cX1_lock 96 = .ok (.istore 5, 2) := dk_54 5 (dk_at dksX1_lock_4 1 rfl rfl)
theorem dX1_lock_98 : decode cX1_lock 98 = .ok (.iload_n 1, 1) := dk_27 (dk_at dksX1_lock_4 3 rfl rfl)
theorem dX1_lock_99 : decode cX1_lock 99 = .ok (.istore_n 2, 1) := dk_61 (dk_at dksX1_lock_4 4 rfl rfl)
theorem dX1_lock_100 : decode cX1_lock 100 = .ok (.iload 5, 2) := dk_21 5 (dk_at dksX1_lock_4 5 rfl rfl)
theorem dX1_lock_102 : decode cX1_lock 102 = .ok (.istore_n 1, 1) := dk_60 (dk_at dksX1_lock_4 7 rfl rfl)
theorem dX1_lock_103 : decode cX1_lock 103 = .ok (.iinc 3 1, 3) := dk_132 3 1 (dk_at dksX1_lock_4 8 rfl rfl)
theorem dX1_lock_106 : decode cX1_lock 106 = .ok (.goto (-94), 3) := dk_167 255 162 (dk_at dksX1_lock_4 11 rfl rfl)
theorem dX1_lock_109 : decode cX1_lock 109 = .ok (.aload_n 0, 1) := dk_42 (dk_at dksX1_lock_4 14 rfl rfl)
theorem dX1_lock_110 : decode cX1_lock 110 = .ok (.iload_n 2, 1) := dk_28 (dk_at dksX1_lock_4 15 rfl rfl)
theorem dX1_lock_111 : decode cX1_lock 111 = .ok (.aload_n 0, 1) := dk_42 (dk_at dksX1_lock_4 16 rfl rfl)
theorem dX1_lock_112 : decode cX1_lock 112 = .ok (.getfield 23, 3) := dk_180 0 23 (dk_at dksX1_lock_4 17 rfl rfl)
theorem dX1_lock_115 : decode cX1_lock 115 = .ok (.bipush 17, 2) := dk_16 17 (dk_at dksX1_lock_4 20 rfl rfl)
theorem dX1_lock_117 : decode cX1_lock 117 = .ok (.iaload, 1) := dk_46 (dk_at dksX1_lock_4 22 rfl rfl)
theorem dX1_lock_118 : decode cX1_lock 118 = .ok (.ixor, 1) := dk_130 (dk_at dksX1_lock_4 23 rfl rfl)
theorem dX1_lock_119 : decode cX1_lock 119 = .ok (.putfield 31, 3) := dk_181 0 31 (dk_at dksX1_lock_5 0 rfl rfl)
theorem dX1_lock_122 : decode cX1_lock 122 = .ok (.aload_n 0, 1) := dk_42 (dk_at dksX1_lock_5 3 rfl rfl)
theorem dX1_lock_123 : decode cX1_lock 123 = .ok (.iload_n 1, 1) := dk_27 (dk_at dksX1_lock_5 4 rfl rfl)
theorem dX1_lock_124 : decode cX1_lock 124 = .ok (.aload_n 0, 1) := dk_42 (dk_at dksX1_lock_5 5 rfl rfl)
theorem dX1_lock_125 : decode cX1_lock 125 = .ok (.getfield 23, 3) := dk_180 0 23 (dk_at dksX1_lock_5 6 rfl rfl)
theorem dX1_lock_128 : decode cX1_lock 128 = .ok (.bipush 16, 2) := dk_16 16 (dk_at dksX1_lock_5 9 rfl rfl)
theorem dX1_lock_130 : decode cX1_lock 130 = .ok (.iaload, 1) := dk_46 (dk_at dksX1_lock_5 11 rfl rfl)
theorem dX1_lock_131 : decode cX1_lock 131 = .ok (.ixor, 1) := dk_130 (dk_at dksX1_lock_5 12 rfl rfl)
theorem dX1_lock_132 : decode cX1_lock 132 = .ok (.putfield 34, 3) := dk_181 0 34 (dk_at dksX1_lock_5 13 rfl rfl)
theorem dX1_lock_135 : decode cX1_lock 135 = .ok (.return_, 1) := dk_177 (dk_at dksX1_lock_5 16 rfl rfl)
abbrev cX1_out : ByteArray := prog_4_method_10_code
def yX1_out : MethodName := ⟨RX1, "out", "(I)I"⟩
def dkwX1_out_0 : List UInt8 := [42, 180, 0, 20, 27, 18, 26, 126, 16, 24, 112, 46, 172]
abbrev dktX1_out_0 : List UInt8 := dkwX1_out_0 ++ []
theorem dksX1_out_0 : cX1_out.data.toList.drop 0 = dktX1_out_0 := by decide +kernel
theorem dX1_out_0 : decode cX1_out 0 = .ok (.aload_n 0, 1) := dk_42 (dk_at dksX1_out_0 0 rfl rfl)
theorem dX1_out_1 : decode cX1_out 1 = .ok (.getfield 20, 3) := dk_180 0 20 (dk_at dksX1_out_0 1 rfl rfl)
theorem dX1_out_4 : decode cX1_out 4 = .ok (.iload_n 1, 1) := dk_27 (dk_at dksX1_out_0 4 rfl rfl)
theorem dX1_out_5 : decode cX1_out 5 = .ok (.ldc 26, 2) := dk_18 26 (dk_at dksX1_out_0 5 rfl rfl)
theorem dX1_out_7 : decode cX1_out 7 = .ok (.iand, 1) := dk_126 (dk_at dksX1_out_0 7 rfl rfl)
theorem dX1_out_8 : decode cX1_out 8 = .ok (.bipush 24, 2) := dk_16 24 (dk_at dksX1_out_0 8 rfl rfl)
theorem dX1_out_10 : decode cX1_out 10 = .ok (.irem, 1) := dk_112 (dk_at dksX1_out_0 10 rfl rfl)
theorem dX1_out_11 : decode cX1_out 11 = .ok (.iaload, 1) := dk_46 (dk_at dksX1_out_0 11 rfl rfl)
theorem dX1_out_12 : decode cX1_out 12 = .ok (.ireturn, 1) := dk_172 (dk_at dksX1_out_0 12 rfl rfl)
theorem q12 : (Jvm.Cond.initialized "CryptDeskModel") ∈ lw_all := lw_g (lw_at lw_m1 2 rfl) rfl
theorem q243 : (Jvm.Cond.instantiable "CryptDeskModel" (7 : Nat)) ∈ lw_all := lw_g (lw_at lw_m1 233 rfl) rfl
theorem q245 : (Jvm.Cond.instanceMethod ({ cls := "CryptDeskModel", name := "<init>", desc := "()V" } : Jvm.MethodName)) ∈ lw_all := lw_g (lw_at lw_m1 235 rfl) rfl
theorem q246 : (Jvm.Cond.code ({ cls := "CryptDeskModel", name := "<init>", desc := "()V" } : Jvm.MethodName) prog_4_method_1_code (1 : Nat) (Option.none : Option Jvm.ClassFile.FieldType)) ∈ lw_all := lw_g (lw_at lw_m1 236 rfl) rfl
theorem q247 : (Jvm.Cond.methodLink "CryptDeskModel" (1 : Nat) ({ cls := "java/lang/Object", name := "<init>", desc := "()V" } : Jvm.MethodName)) ∈ lw_all := lw_g (lw_at lw_m1 237 rfl) rfl
theorem q248 : (Jvm.Cond.fieldLink "CryptDeskModel" (7 : Nat) "CryptDeskModel" "word" "[I") ∈ lw_all := lw_g (lw_at lw_m1 238 rfl) rfl
theorem q249 : (Jvm.Cond.fieldLink "CryptDeskModel" (13 : Nat) "CryptDeskModel" "size" "I") ∈ lw_all := lw_g (lw_at lw_m1 239 rfl) rfl
theorem q250 : (Jvm.Cond.fieldLink "CryptDeskModel" (17 : Nat) "CryptDeskModel" "salt" "[I") ∈ lw_all := lw_g (lw_at lw_m2 0 rfl) rfl
theorem q251 : (Jvm.Cond.fieldLink "CryptDeskModel" (20 : Nat) "CryptDeskModel" "out" "[I") ∈ lw_all := lw_g (lw_at lw_m2 1 rfl) rfl
theorem q252 : (Jvm.Cond.fieldLink "CryptDeskModel" (23 : Nat) "CryptDeskModel" "table" "[I") ∈ lw_all := lw_g (lw_at lw_m2 2 rfl) rfl
theorem q253 : (Jvm.Cond.fieldLink "CryptDeskModel" (31 : Nat) "CryptDeskModel" "left" "I") ∈ lw_all := lw_g (lw_at lw_m2 3 rfl) rfl
theorem q254 : (Jvm.Cond.fieldLink "CryptDeskModel" (34 : Nat) "CryptDeskModel" "right" "I") ∈ lw_all := lw_g (lw_at lw_m2 4 rfl) rfl
theorem q255 : (Jvm.Cond.laysFinal "CryptDeskModel" "CryptDeskModel" "word" "[I") ∈ lw_all := lw_g (lw_at lw_m2 5 rfl) rfl
theorem q256 : (Jvm.Cond.soleField "CryptDeskModel" "word") ∈ lw_all := lw_g (lw_at lw_m2 6 rfl) rfl
theorem q257 : (Jvm.Cond.lays "CryptDeskModel" "CryptDeskModel" "size" "I") ∈ lw_all := lw_g (lw_at lw_m2 7 rfl) rfl
theorem q258 : (Jvm.Cond.soleField "CryptDeskModel" "size") ∈ lw_all := lw_g (lw_at lw_m2 8 rfl) rfl
theorem q259 : (Jvm.Cond.laysFinal "CryptDeskModel" "CryptDeskModel" "salt" "[I") ∈ lw_all := lw_g (lw_at lw_m2 9 rfl) rfl
theorem q260 : (Jvm.Cond.soleField "CryptDeskModel" "salt") ∈ lw_all := lw_g (lw_at lw_m2 10 rfl) rfl
theorem q261 : (Jvm.Cond.laysFinal "CryptDeskModel" "CryptDeskModel" "out" "[I") ∈ lw_all := lw_g (lw_at lw_m2 11 rfl) rfl
theorem q262 : (Jvm.Cond.soleField "CryptDeskModel" "out") ∈ lw_all := lw_g (lw_at lw_m2 12 rfl) rfl
theorem q263 : (Jvm.Cond.laysFinal "CryptDeskModel" "CryptDeskModel" "table" "[I") ∈ lw_all := lw_g (lw_at lw_m2 13 rfl) rfl
theorem q264 : (Jvm.Cond.soleField "CryptDeskModel" "table") ∈ lw_all := lw_g (lw_at lw_m2 14 rfl) rfl
theorem q265 : (Jvm.Cond.lays "CryptDeskModel" "CryptDeskModel" "left" "I") ∈ lw_all := lw_g (lw_at lw_m2 15 rfl) rfl
theorem q266 : (Jvm.Cond.soleField "CryptDeskModel" "left") ∈ lw_all := lw_g (lw_at lw_m2 16 rfl) rfl
theorem q267 : (Jvm.Cond.lays "CryptDeskModel" "CryptDeskModel" "right" "I") ∈ lw_all := lw_g (lw_at lw_m2 17 rfl) rfl
theorem q268 : (Jvm.Cond.soleField "CryptDeskModel" "right") ∈ lw_all := lw_g (lw_at lw_m2 18 rfl) rfl
theorem q269 : (Jvm.Cond.superclass "CryptDeskModel" "java/lang/Object") ∈ lw_all := lw_g (lw_at lw_m2 19 rfl) rfl
theorem q271 : (Jvm.Cond.instanceMethod ({ cls := "CryptDeskModel", name := "word", desc := "(IIII)V" } : Jvm.MethodName)) ∈ lw_all := lw_g (lw_at lw_m2 21 rfl) rfl
theorem q272 : (Jvm.Cond.selects "CryptDeskModel" ({ cls := "CryptDeskModel", name := "word", desc := "(IIII)V" } : Jvm.MethodName) ({ cls := "CryptDeskModel", name := "word", desc := "(IIII)V" } : Jvm.MethodName)) ∈ lw_all := lw_g (lw_at lw_m2 22 rfl) rfl
theorem q273 : (Jvm.Cond.code ({ cls := "CryptDeskModel", name := "word", desc := "(IIII)V" } : Jvm.MethodName) prog_4_method_3_code (6 : Nat) (Option.none : Option Jvm.ClassFile.FieldType)) ∈ lw_all := lw_g (lw_at lw_m2 23 rfl) rfl
theorem q274 : (Jvm.Cond.constant "CryptDeskModel" (26 : Nat) (2147483647 : Int32)) ∈ lw_all := lw_g (lw_at lw_m2 24 rfl) rfl
theorem q275 : (Jvm.Cond.methodLink "CryptDeskModel" (27 : Nat) ({ cls := "CryptDeskModel", name := "lay", desc := "([III)V" } : Jvm.MethodName)) ∈ lw_all := lw_g (lw_at lw_m2 25 rfl) rfl
theorem q276 : (Jvm.Cond.static ({ cls := "CryptDeskModel", name := "lay", desc := "([III)V" } : Jvm.MethodName)) ∈ lw_all := lw_g (lw_at lw_m2 26 rfl) rfl
theorem q277 : (Jvm.Cond.code ({ cls := "CryptDeskModel", name := "lay", desc := "([III)V" } : Jvm.MethodName) prog_4_method_2_code (4 : Nat) (Option.none : Option Jvm.ClassFile.FieldType)) ∈ lw_all := lw_g (lw_at lw_m2 27 rfl) rfl
theorem q279 : (Jvm.Cond.instanceMethod ({ cls := "CryptDeskModel", name := "cut", desc := "(I)V" } : Jvm.MethodName)) ∈ lw_all := lw_g (lw_at lw_m2 29 rfl) rfl
theorem q280 : (Jvm.Cond.selects "CryptDeskModel" ({ cls := "CryptDeskModel", name := "cut", desc := "(I)V" } : Jvm.MethodName) ({ cls := "CryptDeskModel", name := "cut", desc := "(I)V" } : Jvm.MethodName)) ∈ lw_all := lw_g (lw_at lw_m2 30 rfl) rfl
theorem q281 : (Jvm.Cond.code ({ cls := "CryptDeskModel", name := "cut", desc := "(I)V" } : Jvm.MethodName) prog_4_method_4_code (2 : Nat) (Option.none : Option Jvm.ClassFile.FieldType)) ∈ lw_all := lw_g (lw_at lw_m2 31 rfl) rfl
theorem q283 : (Jvm.Cond.instanceMethod ({ cls := "CryptDeskModel", name := "salt", desc := "(IIII)V" } : Jvm.MethodName)) ∈ lw_all := lw_g (lw_at lw_m2 33 rfl) rfl
theorem q284 : (Jvm.Cond.selects "CryptDeskModel" ({ cls := "CryptDeskModel", name := "salt", desc := "(IIII)V" } : Jvm.MethodName) ({ cls := "CryptDeskModel", name := "salt", desc := "(IIII)V" } : Jvm.MethodName)) ∈ lw_all := lw_g (lw_at lw_m2 34 rfl) rfl
theorem q285 : (Jvm.Cond.code ({ cls := "CryptDeskModel", name := "salt", desc := "(IIII)V" } : Jvm.MethodName) prog_4_method_5_code (5 : Nat) (Option.none : Option Jvm.ClassFile.FieldType)) ∈ lw_all := lw_g (lw_at lw_m2 35 rfl) rfl
theorem q287 : (Jvm.Cond.instanceMethod ({ cls := "CryptDeskModel", name := "hash", desc := "(I)V" } : Jvm.MethodName)) ∈ lw_all := lw_g (lw_at lw_m2 37 rfl) rfl
theorem q288 : (Jvm.Cond.selects "CryptDeskModel" ({ cls := "CryptDeskModel", name := "hash", desc := "(I)V" } : Jvm.MethodName) ({ cls := "CryptDeskModel", name := "hash", desc := "(I)V" } : Jvm.MethodName)) ∈ lw_all := lw_g (lw_at lw_m2 38 rfl) rfl
theorem q289 : (Jvm.Cond.code ({ cls := "CryptDeskModel", name := "hash", desc := "(I)V" } : Jvm.MethodName) prog_4_method_9_code (6 : Nat) (Option.none : Option Jvm.ClassFile.FieldType)) ∈ lw_all := lw_g (lw_at lw_m2 39 rfl) rfl
theorem q290 : (Jvm.Cond.fieldLink "CryptDeskModel" (44 : Nat) "CryptDeskModel" "PI" "[I") ∈ lw_all := lw_g (lw_at lw_m2 40 rfl) rfl
theorem q291 : (Jvm.Cond.laysStatic "CryptDeskModel" "PI" "[I") ∈ lw_tbl := lw_at lw_m2 41 rfl
theorem q292 : (Jvm.Cond.methodLink "CryptDeskModel" (47 : Nat) ({ cls := "CryptDeskModel", name := "spread", desc := "([II[I)V" } : Jvm.MethodName)) ∈ lw_all := lw_g (lw_at lw_m2 42 rfl) rfl
theorem q293 : (Jvm.Cond.privateMethod ({ cls := "CryptDeskModel", name := "spread", desc := "([II[I)V" } : Jvm.MethodName)) ∈ lw_tbl := lw_at lw_m2 43 rfl
theorem q294 : (Jvm.Cond.instanceMethod ({ cls := "CryptDeskModel", name := "spread", desc := "([II[I)V" } : Jvm.MethodName)) ∈ lw_all := lw_g (lw_at lw_m2 44 rfl) rfl
theorem q295 : (Jvm.Cond.code ({ cls := "CryptDeskModel", name := "spread", desc := "([II[I)V" } : Jvm.MethodName) prog_4_method_8_code (5 : Nat) (Option.none : Option Jvm.ClassFile.FieldType)) ∈ lw_all := lw_g (lw_at lw_m2 45 rfl) rfl
theorem q296 : (Jvm.Cond.methodLink "CryptDeskModel" (37 : Nat) ({ cls := "CryptDeskModel", name := "four", desc := "([III)I" } : Jvm.MethodName)) ∈ lw_all := lw_g (lw_at lw_m2 46 rfl) rfl
theorem q297 : (Jvm.Cond.static ({ cls := "CryptDeskModel", name := "four", desc := "([III)I" } : Jvm.MethodName)) ∈ lw_all := lw_g (lw_at lw_m2 47 rfl) rfl
theorem q298 : (Jvm.Cond.code ({ cls := "CryptDeskModel", name := "four", desc := "([III)I" } : Jvm.MethodName) prog_4_method_7_code (5 : Nat) (Option.some Jvm.ClassFile.FieldType.int)) ∈ lw_all := lw_g (lw_at lw_m2 48 rfl) rfl
theorem q299 : (Jvm.Cond.methodLink "CryptDeskModel" (41 : Nat) ({ cls := "CryptDeskModel", name := "lock", desc := "()V" } : Jvm.MethodName)) ∈ lw_all := lw_g (lw_at lw_m2 49 rfl) rfl
theorem q300 : (Jvm.Cond.privateMethod ({ cls := "CryptDeskModel", name := "lock", desc := "()V" } : Jvm.MethodName)) ∈ lw_tbl := lw_at lw_m2 50 rfl
theorem q301 : (Jvm.Cond.instanceMethod ({ cls := "CryptDeskModel", name := "lock", desc := "()V" } : Jvm.MethodName)) ∈ lw_all := lw_g (lw_at lw_m2 51 rfl) rfl
theorem q302 : (Jvm.Cond.code ({ cls := "CryptDeskModel", name := "lock", desc := "()V" } : Jvm.MethodName) prog_4_method_6_code (6 : Nat) (Option.none : Option Jvm.ClassFile.FieldType)) ∈ lw_all := lw_g (lw_at lw_m2 52 rfl) rfl
theorem q304 : (Jvm.Cond.instanceMethod ({ cls := "CryptDeskModel", name := "out", desc := "(I)I" } : Jvm.MethodName)) ∈ lw_all := lw_g (lw_at lw_m2 54 rfl) rfl
theorem q305 : (Jvm.Cond.selects "CryptDeskModel" ({ cls := "CryptDeskModel", name := "out", desc := "(I)I" } : Jvm.MethodName) ({ cls := "CryptDeskModel", name := "out", desc := "(I)I" } : Jvm.MethodName)) ∈ lw_all := lw_g (lw_at lw_m2 55 rfl) rfl
theorem q306 : (Jvm.Cond.code ({ cls := "CryptDeskModel", name := "out", desc := "(I)I" } : Jvm.MethodName) prog_4_method_10_code (2 : Nat) (Option.some Jvm.ClassFile.FieldType.int)) ∈ lw_all := lw_g (lw_at lw_m2 56 rfl) rfl
theorem in_X1 : ∀ w ∈ wsX10, w ∈ lw_all := lw_in wsX10 [255, 257, 259, 261, 263, 265, 267] (by decide +kernel) (by decide +kernel)
end
section
/-! BCrypt -/
set_option maxRecDepth 100000
def RX2 : String := "BCrypt"
def TX2 : u_T := fun k => match k with
  | 0 => ("BCrypt", "S", "[I", true)
  | _ => ("BCrypt", "P", "[I", true)
def tyX2 : Nat → FieldType := fun k => match k with
  | 0 => .array .int
  | _ => .array .int
abbrev wsX20 : List Cond := u_ws RX2 TX2 2
theorem nmX2 : ∀ a, a < 2 → ∀ b, b < 2 → a ≠ b → (TX2 a).2.1 ≠ (TX2 b).2.1 := by decide +kernel
theorem tyX2_ok : ∀ k, k < 2 → parseFieldDescriptor (TX2 k).2.2.1 = some (tyX2 k) := by decide +kernel
abbrev cX2_generate : ByteArray := prog_1_method_9_code
def yX2_generate : MethodName := ⟨RX2, "generate", "([B[BIZ)[B"⟩
def dkwX2_generate_4 : List UInt8 := [58, 4, 187, 0, 1, 89, 183, 0, 103, 28, 43, 25, 4, 182, 0, 104, 176]
abbrev dktX2_generate_4 : List UInt8 := dkwX2_generate_4 ++ []
def dkwX2_generate_3 : List UInt8 := [183, 0, 67, 191, 42, 58, 4, 29, 153, 0, 17, 42, 190, 16, 72, 162, 0, 10, 42, 3, 184, 0, 99]
abbrev dktX2_generate_3 : List UInt8 := dkwX2_generate_3 ++ dktX2_generate_4
def dkwX2_generate_2 : List UInt8 := [18, 95, 183, 0, 67, 191, 28, 7, 161, 0, 9, 28, 16, 31, 164, 0, 13, 187, 0, 63, 89, 18, 97]
abbrev dktX2_generate_2 : List UInt8 := dkwX2_generate_2 ++ dktX2_generate_3
def dkwX2_generate_1 : List UInt8 := [159, 0, 13, 187, 0, 63, 89, 18, 93, 183, 0, 67, 191, 42, 190, 16, 72, 164, 0, 13, 187, 0, 63, 89]
abbrev dktX2_generate_1 : List UInt8 := dkwX2_generate_1 ++ dktX2_generate_2
def dkwX2_generate_0 : List UInt8 := [42, 198, 0, 7, 43, 199, 0, 13, 187, 0, 63, 89, 18, 91, 183, 0, 67, 191, 43, 190, 16, 16]
abbrev dktX2_generate_0 : List UInt8 := dkwX2_generate_0 ++ dktX2_generate_1
theorem dksX2_generate_0 : cX2_generate.data.toList.drop 0 = dktX2_generate_0 := by decide +kernel
theorem dksX2_generate_1 : cX2_generate.data.toList.drop 22 = dktX2_generate_1 := dk_seg dksX2_generate_0 22 rfl rfl
theorem dksX2_generate_2 : cX2_generate.data.toList.drop 46 = dktX2_generate_2 := dk_seg dksX2_generate_1 24 rfl rfl
theorem dksX2_generate_3 : cX2_generate.data.toList.drop 69 = dktX2_generate_3 := dk_seg dksX2_generate_2 23 rfl rfl
theorem dksX2_generate_4 : cX2_generate.data.toList.drop 92 = dktX2_generate_4 := dk_seg dksX2_generate_3 23 rfl rfl
theorem dX2_generate_0 : decode cX2_generate 0 = .ok (.aload_n 0, 1) := dk_42 (dk_at dksX2_generate_0 0 rfl rfl)
theorem dX2_generate_1 : decode cX2_generate 1 = .ok (.ifnull 7, 3) := dk_198 0 7 (dk_at dksX2_generate_0 1 rfl rfl)
theorem dX2_generate_4 : decode cX2_generate 4 = .ok (.aload_n 1, 1) := dk_43 (dk_at dksX2_generate_0 4 rfl rfl)
theorem dX2_generate_5 : decode cX2_generate 5 = .ok (.ifnonnull 13, 3) := dk_199 0 13 (dk_at dksX2_generate_0 5 rfl rfl)
theorem dX2_generate_8 : decode cX2_generate 8 = .ok (.new 63, 3) := dk_187 0 63 (dk_at dksX2_generate_0 8 rfl rfl)
theorem dX2_generate_11 : decode cX2_generate 11 = .ok (.dup, 1) := dk_89 (dk_at dksX2_generate_0 11 rfl rfl)
theorem dX2_generate_12 : decode cX2_generate 12 = .ok (.ldc 91, 2) := dk_18 91 (dk_at dksX2_generate_0 12 rfl rfl)
theorem dX2_generate_14 : decode cX2_generate 14 = .ok (.invokespecial 67, 3) := dk_183 0 67 (dk_at dksX2_generate_0 14 rfl rfl)
theorem dX2_generate_17 : decode cX2_generate 17 = .ok (.athrow, 1) := dk_191 (dk_at dksX2_generate_0 17 rfl rfl)
theorem dX2_generate_18 : decode cX2_generate 18 = .ok (.aload_n 1, 1) := dk_43 (dk_at dksX2_generate_0 18 rfl rfl)
theorem dX2_generate_19 : decode cX2_generate 19 = .ok (.arraylength, 1) := dk_190 (dk_at dksX2_generate_0 19 rfl rfl)
theorem dX2_generate_20 : decode cX2_generate 20 = .ok (.bipush 16, 2) := dk_16 16 (dk_at dksX2_generate_0 20 rfl rfl)
theorem dX2_generate_22 : decode cX2_generate 22 = .ok (.if_icmp .eq 13, 3) := dk_159 0 13 (dk_at dksX2_generate_1 0 rfl rfl)
theorem dX2_generate_25 : decode cX2_generate 25 = .ok (.new 63, 3) := dk_187 0 63 (dk_at dksX2_generate_1 3 rfl rfl)
theorem dX2_generate_28 : decode cX2_generate 28 = .ok (.dup, 1) := dk_89 (dk_at dksX2_generate_1 6 rfl rfl)
theorem dX2_generate_29 : decode cX2_generate 29 = .ok (.ldc 93, 2) := dk_18 93 (dk_at dksX2_generate_1 7 rfl rfl)
theorem dX2_generate_31 : decode cX2_generate 31 = .ok (.invokespecial 67, 3) := dk_183 0 67 (dk_at dksX2_generate_1 9 rfl rfl)
theorem dX2_generate_34 : decode cX2_generate 34 = .ok (.athrow, 1) := dk_191 (dk_at dksX2_generate_1 12 rfl rfl)
theorem dX2_generate_35 : decode cX2_generate 35 = .ok (.aload_n 0, 1) := dk_42 (dk_at dksX2_generate_1 13 rfl rfl)
theorem dX2_generate_36 : decode cX2_generate 36 = .ok (.arraylength, 1) := dk_190 (dk_at dksX2_generate_1 14 rfl rfl)
theorem dX2_generate_37 : decode cX2_generate 37 = .ok (.bipush 72, 2) := dk_16 72 (dk_at dksX2_generate_1 15 rfl rfl)
theorem dX2_generate_39 : decode cX2_generate 39 = .ok (.if_icmp .le 13, 3) := dk_164 0 13 (dk_at dksX2_generate_1 17 rfl rfl)
theorem dX2_generate_42 : decode cX2_generate 42 = .ok (.new 63, 3) := dk_187 0 63 (dk_at dksX2_generate_1 20 rfl rfl)
theorem dX2_generate_45 : decode cX2_generate 45 = .ok (.dup, 1) := dk_89 (dk_at dksX2_generate_1 23 rfl rfl)
theorem dX2_generate_46 : decode cX2_generate 46 = .ok (.ldc 95, 2) := dk_18 95 (dk_at dksX2_generate_2 0 rfl rfl)
theorem dX2_generate_48 : decode cX2_generate 48 = .ok (.invokespecial 67, 3) := dk_183 0 67 (dk_at dksX2_generate_2 2 rfl rfl)
theorem dX2_generate_51 : decode cX2_generate 51 = .ok (.athrow, 1) := dk_191 (dk_at dksX2_generate_2 5 rfl rfl)
theorem dX2_generate_52 : decode cX2_generate 52 = .ok (.iload_n 2, 1) := dk_28 (dk_at dksX2_generate_2 6 rfl rfl)
theorem dX2_generate_53 : decode cX2_generate 53 = .ok (.iconst 4, 1) := dk_7 (dk_at dksX2_generate_2 7 rfl rfl)
theorem dX2_generate_54 : decode cX2_generate 54 = .ok (.if_icmp .lt 9, 3) := dk_161 0 9 (dk_at dksX2_generate_2 8 rfl rfl)
theorem dX2_generate_57 : decode cX2_generate 57 = .ok (.iload_n 2, 1) := dk_28 (dk_at dksX2_generate_2 11 rfl rfl)
theorem dX2_generate_58 : decode cX2_generate 58 = .ok (.bipush 31, 2) := dk_16 31 (dk_at dksX2_generate_2 12 rfl rfl)
theorem dX2_generate_60 : decode cX2_generate 60 = .ok (.if_icmp .le 13, 3) := dk_164 0 13 (dk_at dksX2_generate_2 14 rfl rfl)
theorem dX2_generate_63 : decode cX2_generate 63 = .ok (.new 63, 3) := dk_187 0 63 (dk_at dksX2_generate_2 17 rfl rfl)
theorem dX2_generate_66 : decode cX2_generate 66 = .ok (.dup, 1) := dk_89 (dk_at dksX2_generate_2 20 rfl rfl)
theorem dX2_generate_67 : decode cX2_generate 67 = .ok (.ldc 97, 2) := dk_18 97 (dk_at dksX2_generate_2 21 rfl rfl)
theorem dX2_generate_69 : decode cX2_generate 69 = .ok (.invokespecial 67, 3) := dk_183 0 67 (dk_at dksX2_generate_3 0 rfl rfl)
theorem dX2_generate_72 : decode cX2_generate 72 = .ok (.athrow, 1) := dk_191 (dk_at dksX2_generate_3 3 rfl rfl)
theorem dX2_generate_73 : decode cX2_generate 73 = .ok (.aload_n 0, 1) := dk_42 (dk_at dksX2_generate_3 4 rfl rfl)
theorem dX2_generate_74 : decode cX2_generate 74 = .ok (.astore 4, 2) := dk_58 4 (dk_at dksX2_generate_3 5 rfl rfl)
theorem dX2_generate_76 : decode cX2_generate 76 = .ok (.iload_n 3, 1) := dk_29 (dk_at dksX2_generate_3 7 rfl rfl)
theorem dX2_generate_77 : decode cX2_generate 77 = .ok (.ifCond .eq 17, 3) := dk_153 0 17 (dk_at dksX2_generate_3 8 rfl rfl)
theorem dX2_generate_80 : decode cX2_generate 80 = .ok (.aload_n 0, 1) := dk_42 (dk_at dksX2_generate_3 11 rfl rfl)
theorem dX2_generate_81 : decode cX2_generate 81 = .ok (.arraylength, 1) := dk_190 (dk_at dksX2_generate_3 12 rfl rfl)
theorem dX2_generate_82 : decode cX2_generate 82 = .ok (.bipush 72, 2) := dk_16 72 (dk_at dksX2_generate_3 13 rfl rfl)
theorem dX2_generate_84 : decode cX2_generate 84 = .ok (.if_icmp .ge 10, 3) := dk_162 0 10 (dk_at dksX2_generate_3 15 rfl rfl)
theorem dX2_generate_87 : decode cX2_generate 87 = .ok (.aload_n 0, 1) := dk_42 (dk_at dksX2_generate_3 18 rfl rfl)
theorem dX2_generate_88 : decode cX2_generate 88 = .ok (.iconst 0, 1) := dk_3 (dk_at dksX2_generate_3 19 rfl rfl)
theorem dX2_generate_89 : decode cX2_generate 89 = .ok (.invokestatic 99, 3) := dk_184 0 99 (dk_at dksX2_generate_3 20 rfl rfl)
theorem dX2_generate_92 : decode cX2_generate 92 = .ok (.astore 4, 2) := dk_58 4 (dk_at dksX2_generate_4 0 rfl rfl)
theorem dX2_generate_94 : decode cX2_generate 94 = .ok (.new 1, 3) := dk_187 0 1 (dk_at dksX2_generate_4 2 rfl rfl)
theorem dX2_generate_97 : decode cX2_generate 97 = .ok (.dup, 1) := dk_89 (dk_at dksX2_generate_4 5 rfl rfl)
theorem dX2_generate_98 : decode cX2_generate 98 = .ok (.invokespecial 103, 3) := dk_183 0 103 (dk_at dksX2_generate_4 6 rfl rfl)
theorem dX2_generate_101 : decode cX2_generate 101 = .ok (.iload_n 2, 1) := dk_28 (dk_at dksX2_generate_4 9 rfl rfl)
theorem dX2_generate_102 : decode cX2_generate 102 = .ok (.aload_n 1, 1) := dk_43 (dk_at dksX2_generate_4 10 rfl rfl)
theorem dX2_generate_103 : decode cX2_generate 103 = .ok (.aload 4, 2) := dk_25 4 (dk_at dksX2_generate_4 11 rfl rfl)
theorem dX2_generate_105 : decode cX2_generate 105 = .ok (.invokevirtual 104, 3) := dk_182 0 104 (dk_at dksX2_generate_4 13 rfl rfl)
theorem dX2_generate_108 : decode cX2_generate 108 = .ok (.areturn, 1) := dk_176 (dk_at dksX2_generate_4 16 rfl rfl)
abbrev cX2_init : ByteArray := prog_1_method_1_code
def yX2_init : MethodName := ⟨RX2, "<init>", "()V"⟩
def dkwX2_init_0 : List UInt8 := [42, 183, 0, 3, 42, 17, 4, 0, 188, 10, 181, 0, 9, 42, 16, 18, 188, 10, 181, 0, 13, 177]
abbrev dktX2_init_0 : List UInt8 := dkwX2_init_0 ++ []
theorem dksX2_init_0 : cX2_init.data.toList.drop 0 = dktX2_init_0 := by decide +kernel
theorem dX2_init_0 : decode cX2_init 0 = .ok (.aload_n 0, 1) := dk_42 (dk_at dksX2_init_0 0 rfl rfl)
theorem dX2_init_1 : decode cX2_init 1 = .ok (.invokespecial 3, 3) := dk_183 0 3 (dk_at dksX2_init_0 1 rfl rfl)
theorem dX2_init_4 : decode cX2_init 4 = .ok (.aload_n 0, 1) := dk_42 (dk_at dksX2_init_0 4 rfl rfl)
theorem dX2_init_5 : decode cX2_init 5 = .ok (.sipush 1024, 3) := dk_17 4 0 (dk_at dksX2_init_0 5 rfl rfl)
theorem dX2_init_8 : decode cX2_init 8 = .ok (.newarray .int, 2) := dk_188_10 (dk_at dksX2_init_0 8 rfl rfl)
theorem dX2_init_10 : decode cX2_init 10 = .ok (.putfield 9, 3) := dk_181 0 9 (dk_at dksX2_init_0 10 rfl rfl)
theorem dX2_init_13 : decode cX2_init 13 = .ok (.aload_n 0, 1) := dk_42 (dk_at dksX2_init_0 13 rfl rfl)
theorem dX2_init_14 : decode cX2_init 14 = .ok (.bipush 18, 2) := dk_16 18 (dk_at dksX2_init_0 14 rfl rfl)
theorem dX2_init_16 : decode cX2_init 16 = .ok (.newarray .int, 2) := dk_188_10 (dk_at dksX2_init_0 16 rfl rfl)
theorem dX2_init_18 : decode cX2_init 18 = .ok (.putfield 13, 3) := dk_181 0 13 (dk_at dksX2_init_0 18 rfl rfl)
theorem dX2_init_21 : decode cX2_init 21 = .ok (.return_, 1) := dk_177 (dk_at dksX2_init_0 21 rfl rfl)
abbrev cX2_deriveRawKey : ByteArray := prog_1_method_8_code
def yX2_deriveRawKey : MethodName := ⟨RX2, "deriveRawKey", "(I[B[B)[B"⟩
def dkwX2_deriveRawKey_11 : List UInt8 := [167, 255, 172, 42, 182, 0, 87, 176]
abbrev dktX2_deriveRawKey_11 : List UInt8 := dkwX2_deriveRawKey_11 ++ []
def dkwX2_deriveRawKey_10 : List UInt8 := [180, 0, 13, 16, 16, 46, 42, 180, 0, 13, 16, 17, 46, 42, 180, 0, 9, 182, 0, 83, 132, 7, 1]
abbrev dktX2_deriveRawKey_10 : List UInt8 := dkwX2_deriveRawKey_10 ++ dktX2_deriveRawKey_11
def dkwX2_deriveRawKey_9 : List UInt8 := [180, 0, 9, 182, 0, 83, 42, 44, 182, 0, 75, 42, 3, 3, 42, 180, 0, 13, 182, 0, 83, 42, 42]
abbrev dktX2_deriveRawKey_9 : List UInt8 := dkwX2_deriveRawKey_9 ++ dktX2_deriveRawKey_10
def dkwX2_deriveRawKey_8 : List UInt8 := [180, 0, 13, 182, 0, 83, 42, 42, 180, 0, 13, 16, 16, 46, 42, 180, 0, 13, 16, 17, 46, 42]
abbrev dktX2_deriveRawKey_8 : List UInt8 := dkwX2_deriveRawKey_8 ++ dktX2_deriveRawKey_9
def dkwX2_deriveRawKey_7 : List UInt8 := [120, 54, 6, 3, 54, 7, 21, 7, 21, 6, 159, 0, 83, 42, 45, 182, 0, 75, 42, 3, 3, 42]
abbrev dktX2_deriveRawKey_7 : List UInt8 := dkwX2_deriveRawKey_7 ++ dktX2_deriveRawKey_8
def dkwX2_deriveRawKey_6 : List UInt8 := [46, 42, 180, 0, 13, 42, 180, 0, 13, 190, 4, 100, 46, 182, 0, 79, 25, 5, 3, 184, 0, 50, 4, 27]
abbrev dktX2_deriveRawKey_6 : List UInt8 := dkwX2_deriveRawKey_6 ++ dktX2_deriveRawKey_7
def dkwX2_deriveRawKey_5 : List UInt8 := [25, 4, 3, 184, 0, 50, 42, 42, 180, 0, 9, 25, 5, 42, 180, 0, 13, 42, 180, 0, 13, 190, 5, 100]
abbrev dktX2_deriveRawKey_5 : List UInt8 := dkwX2_deriveRawKey_5 ++ dktX2_deriveRawKey_6
def dkwX2_deriveRawKey_4 : List UInt8 := [6, 25, 4, 4, 46, 79, 42, 45, 182, 0, 75, 42, 42, 180, 0, 13, 25, 4, 3, 3, 182, 0, 79]
abbrev dktX2_deriveRawKey_4 : List UInt8 := dkwX2_deriveRawKey_4 ++ dktX2_deriveRawKey_5
def dkwX2_deriveRawKey_3 : List UInt8 := [3, 25, 4, 5, 46, 79, 25, 5, 4, 25, 4, 6, 46, 79, 25, 5, 5, 25, 4, 3, 46, 79, 25, 5]
abbrev dktX2_deriveRawKey_3 : List UInt8 := dkwX2_deriveRawKey_3 ++ dktX2_deriveRawKey_4
def dkwX2_deriveRawKey_2 : List UInt8 := [42, 182, 0, 68, 7, 188, 10, 58, 4, 44, 3, 25, 4, 184, 0, 71, 44, 190, 188, 10, 58, 5, 25, 5]
abbrev dktX2_deriveRawKey_2 : List UInt8 := dkwX2_deriveRawKey_2 ++ dktX2_deriveRawKey_3
def dkwX2_deriveRawKey_1 : List UInt8 := [16, 31, 164, 0, 13, 187, 0, 63, 89, 18, 65, 183, 0, 67, 191, 45, 190, 154, 0, 7, 7, 188, 8, 78]
abbrev dktX2_deriveRawKey_1 : List UInt8 := dkwX2_deriveRawKey_1 ++ dktX2_deriveRawKey_2
def dkwX2_deriveRawKey_0 : List UInt8 := [44, 190, 16, 16, 159, 0, 13, 187, 0, 56, 89, 18, 58, 183, 0, 60, 191, 27, 7, 161, 0, 9, 27]
abbrev dktX2_deriveRawKey_0 : List UInt8 := dkwX2_deriveRawKey_0 ++ dktX2_deriveRawKey_1
theorem dksX2_deriveRawKey_0 : cX2_deriveRawKey.data.toList.drop 0 = dktX2_deriveRawKey_0 := by decide +kernel
theorem dksX2_deriveRawKey_1 : cX2_deriveRawKey.data.toList.drop 23 = dktX2_deriveRawKey_1 := dk_seg dksX2_deriveRawKey_0 23 rfl rfl
theorem dksX2_deriveRawKey_2 : cX2_deriveRawKey.data.toList.drop 47 = dktX2_deriveRawKey_2 := dk_seg dksX2_deriveRawKey_1 24 rfl rfl
theorem dksX2_deriveRawKey_3 : cX2_deriveRawKey.data.toList.drop 71 = dktX2_deriveRawKey_3 := dk_seg dksX2_deriveRawKey_2 24 rfl rfl
theorem dksX2_deriveRawKey_4 : cX2_deriveRawKey.data.toList.drop 95 = dktX2_deriveRawKey_4 := dk_seg dksX2_deriveRawKey_3 24 rfl rfl
theorem dksX2_deriveRawKey_5 : cX2_deriveRawKey.data.toList.drop 118 = dktX2_deriveRawKey_5 := dk_seg dksX2_deriveRawKey_4 23 rfl rfl
theorem dksX2_deriveRawKey_6 : cX2_deriveRawKey.data.toList.drop 142 = dktX2_deriveRawKey_6 := dk_seg dksX2_deriveRawKey_5 24 rfl rfl
theorem dksX2_deriveRawKey_7 : cX2_deriveRawKey.data.toList.drop 166 = dktX2_deriveRawKey_7 := dk_seg dksX2_deriveRawKey_6 24 rfl rfl
theorem dksX2_deriveRawKey_8 : cX2_deriveRawKey.data.toList.drop 188 = dktX2_deriveRawKey_8 := dk_seg dksX2_deriveRawKey_7 22 rfl rfl
theorem dksX2_deriveRawKey_9 : cX2_deriveRawKey.data.toList.drop 210 = dktX2_deriveRawKey_9 := dk_seg dksX2_deriveRawKey_8 22 rfl rfl
theorem dksX2_deriveRawKey_10 : cX2_deriveRawKey.data.toList.drop 233 = dktX2_deriveRawKey_10 := dk_seg dksX2_deriveRawKey_9 23 rfl rfl
theorem dksX2_deriveRawKey_11 : cX2_deriveRawKey.data.toList.drop 256 = dktX2_deriveRawKey_11 := dk_seg dksX2_deriveRawKey_10 23 rfl rfl
theorem dX2_deriveRawKey_0 : decode cX2_deriveRawKey 0 = .ok (.aload_n 2, 1) := dk_44 (dk_at dksX2_deriveRawKey_0 0 rfl rfl)
theorem dX2_deriveRawKey_1 : decode cX2_deriveRawKey 1 = .ok (.arraylength, 1) := dk_190 (dk_at dksX2_deriveRawKey_0 1 rfl rfl)
theorem dX2_deriveRawKey_2 : decode cX2_deriveRawKey 2 = .ok (.bipush 16, 2) := dk_16 16 (dk_at dksX2_deriveRawKey_0 2 rfl rfl)
theorem dX2_deriveRawKey_4 : decode cX2_deriveRawKey 4 = .ok (.if_icmp .eq 13, 3) := dk_159 0 13 (dk_at dksX2_deriveRawKey_0 4 rfl rfl)
theorem dX2_deriveRawKey_7 : decode cX2_deriveRawKey 7 = .ok (.new 56, 3) := dk_187 0 56 (dk_at dksX2_deriveRawKey_0 7 rfl rfl)
theorem dX2_deriveRawKey_10 : decode cX2_deriveRawKey 10 = .ok (.dup, 1) := dk_89 (dk_at dksX2_deriveRawKey_0 10 rfl rfl)
theorem dX2_deriveRawKey_11 : decode cX2_deriveRawKey 11 = .ok (.ldc 58, 2) := dk_18 58 (dk_at dksX2_deriveRawKey_0 11 rfl rfl)
theorem dX2_deriveRawKey_13 : decode cX2_deriveRawKey 13 = .ok (.invokespecial 60, 3) := dk_183 0 60 (dk_at dksX2_deriveRawKey_0 13 rfl rfl)
theorem dX2_deriveRawKey_16 : decode cX2_deriveRawKey 16 = .ok (.athrow, 1) := dk_191 (dk_at dksX2_deriveRawKey_0 16 rfl rfl)
theorem dX2_deriveRawKey_17 : decode cX2_deriveRawKey 17 = .ok (.iload_n 1, 1) := dk_27 (dk_at dksX2_deriveRawKey_0 17 rfl rfl)
theorem dX2_deriveRawKey_18 : decode cX2_deriveRawKey 18 = .ok (.iconst 4, 1) := dk_7 (dk_at dksX2_deriveRawKey_0 18 rfl rfl)
theorem dX2_deriveRawKey_19 : decode cX2_deriveRawKey 19 = .ok (.if_icmp .lt 9, 3) := dk_161 0 9 (dk_at dksX2_deriveRawKey_0 19 rfl rfl)
theorem dX2_deriveRawKey_22 : decode cX2_deriveRawKey 22 = .ok (.iload_n 1, 1) := dk_27 (dk_at dksX2_deriveRawKey_0 22 rfl rfl)
theorem dX2_deriveRawKey_23 : decode cX2_deriveRawKey 23 = .ok (.bipush 31, 2) := dk_16 31 (dk_at dksX2_deriveRawKey_1 0 rfl rfl)
theorem dX2_deriveRawKey_25 : decode cX2_deriveRawKey 25 = .ok (.if_icmp .le 13, 3) := dk_164 0 13 (dk_at dksX2_deriveRawKey_1 2 rfl rfl)
theorem dX2_deriveRawKey_28 : decode cX2_deriveRawKey 28 = .ok (.new 63, 3) := dk_187 0 63 (dk_at dksX2_deriveRawKey_1 5 rfl rfl)
theorem dX2_deriveRawKey_31 : decode cX2_deriveRawKey 31 = .ok (.dup, 1) := dk_89 (dk_at dksX2_deriveRawKey_1 8 rfl rfl)
theorem dX2_deriveRawKey_32 : decode cX2_deriveRawKey 32 = .ok (.ldc 65, 2) := dk_18 65 (dk_at dksX2_deriveRawKey_1 9 rfl rfl)
theorem dX2_deriveRawKey_34 : decode cX2_deriveRawKey 34 = .ok (.invokespecial 67, 3) := dk_183 0 67 (dk_at dksX2_deriveRawKey_1 11 rfl rfl)
theorem dX2_deriveRawKey_37 : decode cX2_deriveRawKey 37 = .ok (.athrow, 1) := dk_191 (dk_at dksX2_deriveRawKey_1 14 rfl rfl)
theorem dX2_deriveRawKey_38 : decode cX2_deriveRawKey 38 = .ok (.aload_n 3, 1) := dk_45 (dk_at dksX2_deriveRawKey_1 15 rfl rfl)
theorem dX2_deriveRawKey_39 : decode cX2_deriveRawKey 39 = .ok (.arraylength, 1) := dk_190 (dk_at dksX2_deriveRawKey_1 16 rfl rfl)
theorem dX2_deriveRawKey_40 : decode cX2_deriveRawKey 40 = .ok (.ifCond .ne 7, 3) := dk_154 0 7 (dk_at dksX2_deriveRawKey_1 17 rfl rfl)
theorem dX2_deriveRawKey_43 : decode cX2_deriveRawKey 43 = .ok (.iconst 4, 1) := dk_7 (dk_at dksX2_deriveRawKey_1 20 rfl rfl)
theorem dX2_deriveRawKey_44 : decode cX2_deriveRawKey 44 = .ok (.newarray .byte, 2) := dk_188_8 (dk_at dksX2_deriveRawKey_1 21 rfl rfl)
theorem dX2_deriveRawKey_46 : decode cX2_deriveRawKey 46 = .ok (.astore_n 3, 1) := dk_78 (dk_at dksX2_deriveRawKey_1 23 rfl rfl)
theorem dX2_deriveRawKey_47 : decode cX2_deriveRawKey 47 = .ok (.aload_n 0, 1) := dk_42 (dk_at dksX2_deriveRawKey_2 0 rfl rfl)
theorem dX2_deriveRawKey_48 : decode cX2_deriveRawKey 48 = .ok (.invokevirtual 68, 3) := dk_182 0 68 (dk_at dksX2_deriveRawKey_2 1 rfl rfl)
theorem dX2_deriveRawKey_51 : decode cX2_deriveRawKey 51 = .ok (.iconst 4, 1) := dk_7 (dk_at dksX2_deriveRawKey_2 4 rfl rfl)
theorem dX2_deriveRawKey_52 : decode cX2_deriveRawKey 52 = .ok (.newarray .int, 2) := dk_188_10 (dk_at dksX2_deriveRawKey_2 5 rfl rfl)
theorem dX2_deriveRawKey_54 : decode cX2_deriveRawKey 54 = .ok (.astore 4, 2) := dk_58 4 (dk_at dksX2_deriveRawKey_2 7 rfl rfl)
theorem dX2_deriveRawKey_56 : decode cX2_deriveRawKey 56 = .ok (.aload_n 2, 1) := dk_44 (dk_at dksX2_deriveRawKey_2 9 rfl rfl)
theorem dX2_deriveRawKey_57 : decode cX2_deriveRawKey 57 = .ok (.iconst 0, 1) := dk_3 (dk_at dksX2_deriveRawKey_2 10 rfl rfl)
theorem dX2_deriveRawKey_58 : decode cX2_deriveRawKey 58 = .ok (.aload 4, 2) := dk_25 4 (dk_at dksX2_deriveRawKey_2 11 rfl rfl)
theorem dX2_deriveRawKey_60 : decode cX2_deriveRawKey 60 = .ok (.invokestatic 71, 3) := dk_184 0 71 (dk_at dksX2_deriveRawKey_2 13 rfl rfl)
theorem dX2_deriveRawKey_63 : decode cX2_deriveRawKey 63 = .ok (.aload_n 2, 1) := dk_44 (dk_at dksX2_deriveRawKey_2 16 rfl rfl)
theorem dX2_deriveRawKey_64 : decode cX2_deriveRawKey 64 = .ok (.arraylength, 1) := dk_190 (dk_at dksX2_deriveRawKey_2 17 rfl rfl)
theorem dX2_deriveRawKey_65 : decode cX2_deriveRawKey 65 = .ok (.newarray .int, 2) := dk_188_10 (dk_at dksX2_deriveRawKey_2 18 rfl rfl)
theorem dX2_deriveRawKey_67 : decode cX2_deriveRawKey 67 = .ok (.astore 5, 2) := dk_58 5 (dk_at dksX2_deriveRawKey_2 20 rfl rfl)
theorem dX2_deriveRawKey_69 : decode cX2_deriveRawKey 69 = .ok (.aload 5, 2) := dk_25 5 (dk_at dksX2_deriveRawKey_2 22 rfl rfl)
theorem dX2_deriveRawKey_71 : decode cX2_deriveRawKey 71 = .ok (.iconst 0, 1) := dk_3 (dk_at dksX2_deriveRawKey_3 0 rfl rfl)
theorem dX2_deriveRawKey_72 : decode cX2_deriveRawKey 72 = .ok (.aload 4, 2) := dk_25 4 (dk_at dksX2_deriveRawKey_3 1 rfl rfl)
theorem dX2_deriveRawKey_74 : decode cX2_deriveRawKey 74 = .ok (.iconst 2, 1) := dk_5 (dk_at dksX2_deriveRawKey_3 3 rfl rfl)
theorem dX2_deriveRawKey_75 : decode cX2_deriveRawKey 75 = .ok (.iaload, 1) := dk_46 (dk_at dksX2_deriveRawKey_3 4 rfl rfl)
theorem dX2_deriveRawKey_76 : decode cX2_deriveRawKey 76 = .ok (.iastore, 1) := dk_79 (dk_at dksX2_deriveRawKey_3 5 rfl rfl)
theorem dX2_deriveRawKey_77 : decode cX2_deriveRawKey 77 = .ok (.aload 5, 2) := dk_25 5 (dk_at dksX2_deriveRawKey_3 6 rfl rfl)
theorem dX2_deriveRawKey_79 : decode cX2_deriveRawKey 79 = .ok (.iconst 1, 1) := dk_4 (dk_at dksX2_deriveRawKey_3 8 rfl rfl)
theorem dX2_deriveRawKey_80 : decode cX2_deriveRawKey 80 = .ok (.aload 4, 2) := dk_25 4 (dk_at dksX2_deriveRawKey_3 9 rfl rfl)
theorem dX2_deriveRawKey_82 : decode cX2_deriveRawKey 82 = .ok (.iconst 3, 1) := dk_6 (dk_at dksX2_deriveRawKey_3 11 rfl rfl)
theorem dX2_deriveRawKey_83 : decode cX2_deriveRawKey 83 = .ok (.iaload, 1) := dk_46 (dk_at dksX2_deriveRawKey_3 12 rfl rfl)
theorem dX2_deriveRawKey_84 : decode cX2_deriveRawKey 84 = .ok (.iastore, 1) := dk_79 (dk_at dksX2_deriveRawKey_3 13 rfl rfl)
theorem dX2_deriveRawKey_85 : decode cX2_deriveRawKey 85 = .ok (.aload 5, 2) := dk_25 5 (dk_at dksX2_deriveRawKey_3 14 rfl rfl)
theorem dX2_deriveRawKey_87 : decode cX2_deriveRawKey 87 = .ok (.iconst 2, 1) := dk_5 (dk_at dksX2_deriveRawKey_3 16 rfl rfl)
theorem dX2_deriveRawKey_88 : decode cX2_deriveRawKey 88 = .ok (.aload 4, 2) := dk_25 4 (dk_at dksX2_deriveRawKey_3 17 rfl rfl)
theorem dX2_deriveRawKey_90 : decode cX2_deriveRawKey 90 = .ok (.iconst 0, 1) := dk_3 (dk_at dksX2_deriveRawKey_3 19 rfl rfl)
theorem dX2_deriveRawKey_91 : decode cX2_deriveRawKey 91 = .ok (.iaload, 1) := dk_46 (dk_at dksX2_deriveRawKey_3 20 rfl rfl)
theorem dX2_deriveRawKey_92 : decode cX2_deriveRawKey 92 = .ok (.iastore, 1) := dk_79 (dk_at dksX2_deriveRawKey_3 21 rfl rfl)
theorem dX2_deriveRawKey_93 : decode cX2_deriveRawKey 93 = .ok (.aload 5, 2) := dk_25 5 (dk_at dksX2_deriveRawKey_3 22 rfl rfl)
theorem dX2_deriveRawKey_95 : decode cX2_deriveRawKey 95 = .ok (.iconst 3, 1) := dk_6 (dk_at dksX2_deriveRawKey_4 0 rfl rfl)
theorem dX2_deriveRawKey_96 : decode cX2_deriveRawKey 96 = .ok (.aload 4, 2) := dk_25 4 (dk_at dksX2_deriveRawKey_4 1 rfl rfl)
theorem dX2_deriveRawKey_98 : decode cX2_deriveRawKey 98 = .ok (.iconst 1, 1) := dk_4 (dk_at dksX2_deriveRawKey_4 3 rfl rfl)
theorem dX2_deriveRawKey_99 : decode cX2_deriveRawKey 99 = .ok (.iaload, 1) := dk_46 (dk_at dksX2_deriveRawKey_4 4 rfl rfl)
theorem dX2_deriveRawKey_100 : decode cX2_deriveRawKey 100 = .ok (.iastore, 1) := dk_79 (dk_at dksX2_deriveRawKey_4 5 rfl rfl)
theorem dX2_deriveRawKey_101 : decode cX2_deriveRawKey 101 = .ok (.aload_n 0, 1) := dk_42 (dk_at dksX2_deriveRawKey_4 6 rfl rfl)
theorem dX2_deriveRawKey_102 : decode cX2_deriveRawKey 102 = .ok (.aload_n 3, 1) := dk_45 (dk_at dksX2_deriveRawKey_4 7 rfl rfl)
theorem dX2_deriveRawKey_103 : decode cX2_deriveRawKey 103 = .ok (.invokevirtual 75, 3) := dk_182 0 75 (dk_at dksX2_deriveRawKey_4 8 rfl rfl)
theorem dX2_deriveRawKey_106 : decode cX2_deriveRawKey 106 = .ok (.aload_n 0, 1) := dk_42 (dk_at dksX2_deriveRawKey_4 11 rfl rfl)
theorem dX2_deriveRawKey_107 : decode cX2_deriveRawKey 107 = .ok (.aload_n 0, 1) := dk_42 (dk_at dksX2_deriveRawKey_4 12 rfl rfl)
theorem dX2_deriveRawKey_108 : decode cX2_deriveRawKey 108 = .ok (.getfield 13, 3) := dk_180 0 13 (dk_at dksX2_deriveRawKey_4 13 rfl rfl)
theorem dX2_deriveRawKey_111 : decode cX2_deriveRawKey 111 = .ok (.aload 4, 2) := dk_25 4 (dk_at dksX2_deriveRawKey_4 16 rfl rfl)
theorem dX2_deriveRawKey_113 : decode cX2_deriveRawKey 113 = .ok (.iconst 0, 1) := dk_3 (dk_at dksX2_deriveRawKey_4 18 rfl rfl)
theorem dX2_deriveRawKey_114 : decode cX2_deriveRawKey 114 = .ok (.iconst 0, 1) := dk_3 (dk_at dksX2_deriveRawKey_4 19 rfl rfl)
theorem dX2_deriveRawKey_115 : decode cX2_deriveRawKey 115 = .ok (.invokevirtual 79, 3) := dk_182 0 79 (dk_at dksX2_deriveRawKey_4 20 rfl rfl)
theorem dX2_deriveRawKey_118 : decode cX2_deriveRawKey 118 = .ok (.aload 4, 2) := dk_25 4 (dk_at dksX2_deriveRawKey_5 0 rfl rfl)
theorem dX2_deriveRawKey_120 : decode cX2_deriveRawKey 120 = .ok (.iconst 0, 1) := dk_3 (dk_at dksX2_deriveRawKey_5 2 rfl rfl)
theorem dX2_deriveRawKey_121 : decode cX2_deriveRawKey 121 = .ok (.invokestatic 50, 3) := dk_184 0 50 (dk_at dksX2_deriveRawKey_5 3 rfl rfl)
theorem dX2_deriveRawKey_124 : decode cX2_deriveRawKey 124 = .ok (.aload_n 0, 1) := dk_42 (dk_at dksX2_deriveRawKey_5 6 rfl rfl)
theorem dX2_deriveRawKey_125 : decode cX2_deriveRawKey 125 = .ok (.aload_n 0, 1) := dk_42 (dk_at dksX2_deriveRawKey_5 7 rfl rfl)
theorem dX2_deriveRawKey_126 : decode cX2_deriveRawKey 126 = .ok (.getfield 9, 3) := dk_180 0 9 (dk_at dksX2_deriveRawKey_5 8 rfl rfl)
theorem dX2_deriveRawKey_129 : decode cX2_deriveRawKey 129 = .ok (.aload 5, 2) := dk_25 5 (dk_at dksX2_deriveRawKey_5 11 rfl rfl)
theorem dX2_deriveRawKey_131 : decode cX2_deriveRawKey 131 = .ok (.aload_n 0, 1) := dk_42 (dk_at dksX2_deriveRawKey_5 13 rfl rfl)
theorem dX2_deriveRawKey_132 : decode cX2_deriveRawKey 132 = .ok (.getfield 13, 3) := dk_180 0 13 (dk_at dksX2_deriveRawKey_5 14 rfl rfl)
theorem dX2_deriveRawKey_135 : decode cX2_deriveRawKey 135 = .ok (.aload_n 0, 1) := dk_42 (dk_at dksX2_deriveRawKey_5 17 rfl rfl)
theorem dX2_deriveRawKey_136 : decode cX2_deriveRawKey 136 = .ok (.getfield 13, 3) := dk_180 0 13 (dk_at dksX2_deriveRawKey_5 18 rfl rfl)
theorem dX2_deriveRawKey_139 : decode cX2_deriveRawKey 139 = .ok (.arraylength, 1) := dk_190 (dk_at dksX2_deriveRawKey_5 21 rfl rfl)
theorem dX2_deriveRawKey_140 : decode cX2_deriveRawKey 140 = .ok (.iconst 2, 1) := dk_5 (dk_at dksX2_deriveRawKey_5 22 rfl rfl)
theorem dX2_deriveRawKey_141 : decode cX2_deriveRawKey 141 = .ok (.isub, 1) := dk_100 (dk_at dksX2_deriveRawKey_5 23 rfl rfl)
theorem dX2_deriveRawKey_142 : decode cX2_deriveRawKey 142 = .ok (.iaload, 1) := dk_46 (dk_at dksX2_deriveRawKey_6 0 rfl rfl)
theorem dX2_deriveRawKey_143 : decode cX2_deriveRawKey 143 = .ok (.aload_n 0, 1) := dk_42 (dk_at dksX2_deriveRawKey_6 1 rfl rfl)
theorem dX2_deriveRawKey_144 : decode cX2_deriveRawKey 144 = .ok (.getfield 13, 3) := dk_180 0 13 (dk_at dksX2_deriveRawKey_6 2 rfl rfl)
theorem dX2_deriveRawKey_147 : decode cX2_deriveRawKey 147 = .ok (.aload_n 0, 1) := dk_42 (dk_at dksX2_deriveRawKey_6 5 rfl rfl)
theorem dX2_deriveRawKey_148 : decode cX2_deriveRawKey 148 = .ok (.getfield 13, 3) := dk_180 0 13 (dk_at dksX2_deriveRawKey_6 6 rfl rfl)
theorem dX2_deriveRawKey_151 : decode cX2_deriveRawKey 151 = .ok (.arraylength, 1) := dk_190 (dk_at dksX2_deriveRawKey_6 9 rfl rfl)
theorem dX2_deriveRawKey_152 : decode cX2_deriveRawKey 152 = .ok (.iconst 1, 1) := dk_4 (dk_at dksX2_deriveRawKey_6 10 rfl rfl)
theorem dX2_deriveRawKey_153 : decode cX2_deriveRawKey 153 = .ok (.isub, 1) := dk_100 (dk_at dksX2_deriveRawKey_6 11 rfl rfl)
theorem dX2_deriveRawKey_154 : decode cX2_deriveRawKey 154 = .ok (.iaload, 1) := dk_46 (dk_at dksX2_deriveRawKey_6 12 rfl rfl)
theorem dX2_deriveRawKey_155 : decode cX2_deriveRawKey 155 = .ok (.invokevirtual 79, 3) := dk_182 0 79 (dk_at dksX2_deriveRawKey_6 13 rfl rfl)
theorem dX2_deriveRawKey_158 : decode cX2_deriveRawKey 158 = .ok (.aload 5, 2) := dk_25 5 (dk_at dksX2_deriveRawKey_6 16 rfl rfl)
theorem dX2_deriveRawKey_160 : decode cX2_deriveRawKey 160 = .ok (.iconst 0, 1) := dk_3 (dk_at dksX2_deriveRawKey_6 18 rfl rfl)
theorem dX2_deriveRawKey_161 : decode cX2_deriveRawKey 161 = .ok (.invokestatic 50, 3) := dk_184 0 50 (dk_at dksX2_deriveRawKey_6 19 rfl rfl)
theorem dX2_deriveRawKey_164 : decode cX2_deriveRawKey 164 = .ok (.iconst 1, 1) := dk_4 (dk_at dksX2_deriveRawKey_6 22 rfl rfl)
theorem dX2_deriveRawKey_165 : decode cX2_deriveRawKey 165 = .ok (.iload_n 1, 1) := dk_27 (dk_at dksX2_deriveRawKey_6 23 rfl rfl)
theorem dX2_deriveRawKey_166 : decode cX2_deriveRawKey 166 = .ok (.ishl, 1) := dk_120 (dk_at dksX2_deriveRawKey_7 0 rfl rfl)
theorem dX2_deriveRawKey_167 : decode cX2_deriveRawKey 167 = .ok (.istore 6, 2) := dk_54 6 (dk_at dksX2_deriveRawKey_7 1 rfl rfl)
theorem dX2_deriveRawKey_169 : decode cX2_deriveRawKey 169 = .ok (.iconst 0, 1) := dk_3 (dk_at dksX2_deriveRawKey_7 3 rfl rfl)
theorem dX2_deriveRawKey_170 : decode cX2_deriveRawKey 170 = .ok (.istore 7, 2) := dk_54 7 (dk_at dksX2_deriveRawKey_7 4 rfl rfl)
theorem dX2_deriveRawKey_172 : decode cX2_deriveRawKey 172 = .ok (.iload 7, 2) := dk_21 7 (dk_at dksX2_deriveRawKey_7 6 rfl rfl)
theorem dX2_deriveRawKey_174 : decode cX2_deriveRawKey 174 = .ok (.iload 6, 2) := dk_21 6 (dk_at dksX2_deriveRawKey_7 8 rfl rfl)
theorem dX2_deriveRawKey_176 : decode cX2_deriveRawKey 176 = .ok (.if_icmp .eq 83, 3) := dk_159 0 83 (dk_at dksX2_deriveRawKey_7 10 rfl rfl)
theorem dX2_deriveRawKey_179 : decode cX2_deriveRawKey 179 = .ok (.aload_n 0, 1) := dk_42 (dk_at dksX2_deriveRawKey_7 13 rfl rfl)
theorem dX2_deriveRawKey_180 : decode cX2_deriveRawKey 180 = .ok (.aload_n 3, 1) := dk_45 (dk_at dksX2_deriveRawKey_7 14 rfl rfl)
theorem dX2_deriveRawKey_181 : decode cX2_deriveRawKey 181 = .ok (.invokevirtual 75, 3) := dk_182 0 75 (dk_at dksX2_deriveRawKey_7 15 rfl rfl)
theorem dX2_deriveRawKey_184 : decode cX2_deriveRawKey 184 = .ok (.aload_n 0, 1) := dk_42 (dk_at dksX2_deriveRawKey_7 18 rfl rfl)
theorem dX2_deriveRawKey_185 : decode cX2_deriveRawKey 185 = .ok (.iconst 0, 1) := dk_3 (dk_at dksX2_deriveRawKey_7 19 rfl rfl)
theorem dX2_deriveRawKey_186 : decode cX2_deriveRawKey 186 = .ok (.iconst 0, 1) := dk_3 (dk_at dksX2_deriveRawKey_7 20 rfl rfl)
theorem dX2_deriveRawKey_187 : decode cX2_deriveRawKey 187 = .ok (.aload_n 0, 1) := dk_42 (dk_at dksX2_deriveRawKey_7 21 rfl rfl)
theorem dX2_deriveRawKey_188 : decode cX2_deriveRawKey 188 = .ok (.getfield 13, 3) := dk_180 0 13 (dk_at dksX2_deriveRawKey_8 0 rfl rfl)
theorem dX2_deriveRawKey_191 : decode cX2_deriveRawKey 191 = .ok (.invokevirtual 83, 3) := dk_182 0 83 (dk_at dksX2_deriveRawKey_8 3 rfl rfl)
theorem dX2_deriveRawKey_194 : decode cX2_deriveRawKey 194 = .ok (.aload_n 0, 1) := dk_42 (dk_at dksX2_deriveRawKey_8 6 rfl rfl)
theorem dX2_deriveRawKey_195 : decode cX2_deriveRawKey 195 = .ok (.aload_n 0, 1) := dk_42 (dk_at dksX2_deriveRawKey_8 7 rfl rfl)
theorem dX2_deriveRawKey_196 : decode cX2_deriveRawKey 196 = .ok (.getfield 13, 3) := dk_180 0 13 (dk_at dksX2_deriveRawKey_8 8 rfl rfl)
theorem dX2_deriveRawKey_199 : decode cX2_deriveRawKey 199 = .ok (.bipush 16, 2) := dk_16 16 (dk_at dksX2_deriveRawKey_8 11 rfl rfl)
theorem dX2_deriveRawKey_201 : decode cX2_deriveRawKey 201 = .ok (.iaload, 1) := dk_46 (dk_at dksX2_deriveRawKey_8 13 rfl rfl)
theorem dX2_deriveRawKey_202 : decode cX2_deriveRawKey 202 = .ok (.aload_n 0, 1) := dk_42 (dk_at dksX2_deriveRawKey_8 14 rfl rfl)
theorem dX2_deriveRawKey_203 : decode cX2_deriveRawKey 203 = .ok (.getfield 13, 3) := dk_180 0 13 (dk_at dksX2_deriveRawKey_8 15 rfl rfl)
theorem dX2_deriveRawKey_206 : decode cX2_deriveRawKey 206 = .ok (.bipush 17, 2) := dk_16 17 (dk_at dksX2_deriveRawKey_8 18 rfl rfl)
theorem dX2_deriveRawKey_208 : decode cX2_deriveRawKey 208 = .ok (.iaload, 1) := dk_46 (dk_at dksX2_deriveRawKey_8 20 rfl rfl)
theorem dX2_deriveRawKey_209 : decode cX2_deriveRawKey 209 = .ok (.aload_n 0, 1) := dk_42 (dk_at dksX2_deriveRawKey_8 21 rfl rfl)
theorem dX2_deriveRawKey_210 : decode cX2_deriveRawKey 210 = .ok (.getfield 9, 3) := dk_180 0 9 (dk_at dksX2_deriveRawKey_9 0 rfl rfl)
theorem dX2_deriveRawKey_213 : decode cX2_deriveRawKey 213 = .ok (.invokevirtual 83, 3) := dk_182 0 83 (dk_at dksX2_deriveRawKey_9 3 rfl rfl)
theorem dX2_deriveRawKey_216 : decode cX2_deriveRawKey 216 = .ok (.aload_n 0, 1) := dk_42 (dk_at dksX2_deriveRawKey_9 6 rfl rfl)
theorem dX2_deriveRawKey_217 : decode cX2_deriveRawKey 217 = .ok (.aload_n 2, 1) := dk_44 (dk_at dksX2_deriveRawKey_9 7 rfl rfl)
theorem dX2_deriveRawKey_218 : decode cX2_deriveRawKey 218 = .ok (.invokevirtual 75, 3) := dk_182 0 75 (dk_at dksX2_deriveRawKey_9 8 rfl rfl)
theorem dX2_deriveRawKey_221 : decode cX2_deriveRawKey 221 = .ok (.aload_n 0, 1) := dk_42 (dk_at dksX2_deriveRawKey_9 11 rfl rfl)
theorem dX2_deriveRawKey_222 : decode cX2_deriveRawKey 222 = .ok (.iconst 0, 1) := dk_3 (dk_at dksX2_deriveRawKey_9 12 rfl rfl)
theorem dX2_deriveRawKey_223 : decode cX2_deriveRawKey 223 = .ok (.iconst 0, 1) := dk_3 (dk_at dksX2_deriveRawKey_9 13 rfl rfl)
theorem dX2_deriveRawKey_224 : decode cX2_deriveRawKey 224 = .ok (.aload_n 0, 1) := dk_42 (dk_at dksX2_deriveRawKey_9 14 rfl rfl)
theorem dX2_deriveRawKey_225 : decode cX2_deriveRawKey 225 = .ok (.getfield 13, 3) := dk_180 0 13 (dk_at dksX2_deriveRawKey_9 15 rfl rfl)
theorem dX2_deriveRawKey_228 : decode cX2_deriveRawKey 228 = .ok (.invokevirtual 83, 3) := dk_182 0 83 (dk_at dksX2_deriveRawKey_9 18 rfl rfl)
theorem dX2_deriveRawKey_231 : decode cX2_deriveRawKey 231 = .ok (.aload_n 0, 1) := dk_42 (dk_at dksX2_deriveRawKey_9 21 rfl rfl)
theorem dX2_deriveRawKey_232 : decode cX2_deriveRawKey 232 = .ok (.aload_n 0, 1) := dk_42 (dk_at dksX2_deriveRawKey_9 22 rfl rfl)
theorem dX2_deriveRawKey_233 : decode cX2_deriveRawKey 233 = .ok (.getfield 13, 3) := dk_180 0 13 (dk_at dksX2_deriveRawKey_10 0 rfl rfl)
theorem dX2_deriveRawKey_236 : decode cX2_deriveRawKey 236 = .ok (.bipush 16, 2) := dk_16 16 (dk_at dksX2_deriveRawKey_10 3 rfl rfl)
theorem dX2_deriveRawKey_238 : decode cX2_deriveRawKey 238 = .ok (.iaload, 1) := dk_46 (dk_at dksX2_deriveRawKey_10 5 rfl rfl)
theorem dX2_deriveRawKey_239 : decode cX2_deriveRawKey 239 = .ok (.aload_n 0, 1) := dk_42 (dk_at dksX2_deriveRawKey_10 6 rfl rfl)
theorem dX2_deriveRawKey_240 : decode cX2_deriveRawKey 240 = .ok (.getfield 13, 3) := dk_180 0 13 (dk_at dksX2_deriveRawKey_10 7 rfl rfl)
theorem dX2_deriveRawKey_243 : decode cX2_deriveRawKey 243 = .ok (.bipush 17, 2) := dk_16 17 (dk_at dksX2_deriveRawKey_10 10 rfl rfl)
theorem dX2_deriveRawKey_245 : decode cX2_deriveRawKey 245 = .ok (.iaload, 1) := dk_46 (dk_at dksX2_deriveRawKey_10 12 rfl rfl)
theorem dX2_deriveRawKey_246 : decode cX2_deriveRawKey 246 = .ok (.aload_n 0, 1) := dk_42 (dk_at dksX2_deriveRawKey_10 13 rfl rfl)
theorem dX2_deriveRawKey_247 : decode cX2_deriveRawKey 247 = .ok (.getfield 9, 3) := dk_180 0 9 (dk_at dksX2_deriveRawKey_10 14 rfl rfl)
theorem dX2_deriveRawKey_250 : decode cX2_deriveRawKey 250 = .ok (.invokevirtual 83, 3) := dk_182 0 83 (dk_at dksX2_deriveRawKey_10 17 rfl rfl)
theorem dX2_deriveRawKey_253 : decode cX2_deriveRawKey 253 = .ok (.iinc 7 1, 3) := dk_132 7 1 (dk_at dksX2_deriveRawKey_10 20 rfl rfl)
theorem dX2_deriveRawKey_256 : decode cX2_deriveRawKey 256 = .ok (.goto (-84), 3) := dk_167 255 172 (dk_at dksX2_deriveRawKey_11 0 rfl rfl)
theorem dX2_deriveRawKey_259 : decode cX2_deriveRawKey 259 = .ok (.aload_n 0, 1) := dk_42 (dk_at dksX2_deriveRawKey_11 3 rfl rfl)
theorem dX2_deriveRawKey_260 : decode cX2_deriveRawKey 260 = .ok (.invokevirtual 87, 3) := dk_182 0 87 (dk_at dksX2_deriveRawKey_11 4 rfl rfl)
theorem dX2_deriveRawKey_263 : decode cX2_deriveRawKey 263 = .ok (.areturn, 1) := dk_176 (dk_at dksX2_deriveRawKey_11 7 rfl rfl)
abbrev cX2_initState : ByteArray := prog_1_method_4_code
def yX2_initState : MethodName := ⟨RX2, "initState", "()V"⟩
def dkwX2_initState_3 : List UInt8 := [42, 180, 0, 13, 3, 16, 18, 184, 0, 23, 177]
abbrev dktX2_initState_3 : List UInt8 := dkwX2_initState_3 ++ []
def dkwX2_initState_2 : List UInt8 := [184, 0, 23, 178, 0, 35, 3, 42, 180, 0, 9, 17, 3, 0, 17, 1, 0, 184, 0, 23, 178, 0, 38, 3]
abbrev dktX2_initState_2 : List UInt8 := dkwX2_initState_2 ++ dktX2_initState_3
def dkwX2_initState_1 : List UInt8 := [17, 1, 0, 17, 1, 0, 184, 0, 23, 178, 0, 32, 3, 42, 180, 0, 9, 17, 2, 0, 17, 1, 0]
abbrev dktX2_initState_1 : List UInt8 := dkwX2_initState_1 ++ dktX2_initState_2
def dkwX2_initState_0 : List UInt8 := [178, 0, 20, 3, 42, 180, 0, 9, 3, 17, 1, 0, 184, 0, 23, 178, 0, 29, 3, 42, 180, 0, 9]
abbrev dktX2_initState_0 : List UInt8 := dkwX2_initState_0 ++ dktX2_initState_1
theorem dksX2_initState_0 : cX2_initState.data.toList.drop 0 = dktX2_initState_0 := by decide +kernel
theorem dksX2_initState_1 : cX2_initState.data.toList.drop 23 = dktX2_initState_1 := dk_seg dksX2_initState_0 23 rfl rfl
theorem dksX2_initState_2 : cX2_initState.data.toList.drop 46 = dktX2_initState_2 := dk_seg dksX2_initState_1 23 rfl rfl
theorem dksX2_initState_3 : cX2_initState.data.toList.drop 70 = dktX2_initState_3 := dk_seg dksX2_initState_2 24 rfl rfl
theorem dX2_initState_0 : decode cX2_initState 0 = .ok (.getstatic 20, 3) := dk_178 0 20 (dk_at dksX2_initState_0 0 rfl rfl)
theorem dX2_initState_3 : decode cX2_initState 3 = .ok (.iconst 0, 1) := dk_3 (dk_at dksX2_initState_0 3 rfl rfl)
theorem dX2_initState_4 : decode cX2_initState 4 = .ok (.aload_n 0, 1) := dk_42 (dk_at dksX2_initState_0 4 rfl rfl)
theorem dX2_initState_5 : decode cX2_initState 5 = .ok (.getfield 9, 3) := dk_180 0 9 (dk_at dksX2_initState_0 5 rfl rfl)
theorem dX2_initState_8 : decode cX2_initState 8 = .ok (.iconst 0, 1) := dk_3 (dk_at dksX2_initState_0 8 rfl rfl)
theorem dX2_initState_9 : decode cX2_initState 9 = .ok (.sipush 256, 3) := dk_17 1 0 (dk_at dksX2_initState_0 9 rfl rfl)
theorem dX2_initState_12 : decode cX2_initState 12 = .ok (.invokestatic 23, 3) := dk_184 0 23 (dk_at dksX2_initState_0 12 rfl rfl)
theorem dX2_initState_15 : decode cX2_initState 15 = .ok (.getstatic 29, 3) := dk_178 0 29 (dk_at dksX2_initState_0 15 rfl rfl)
theorem dX2_initState_18 : decode cX2_initState 18 = .ok (.iconst 0, 1) := dk_3 (dk_at dksX2_initState_0 18 rfl rfl)
theorem dX2_initState_19 : decode cX2_initState 19 = .ok (.aload_n 0, 1) := dk_42 (dk_at dksX2_initState_0 19 rfl rfl)
theorem dX2_initState_20 : decode cX2_initState 20 = .ok (.getfield 9, 3) := dk_180 0 9 (dk_at dksX2_initState_0 20 rfl rfl)
theorem dX2_initState_23 : decode cX2_initState 23 = .ok (.sipush 256, 3) := dk_17 1 0 (dk_at dksX2_initState_1 0 rfl rfl)
theorem dX2_initState_26 : decode cX2_initState 26 = .ok (.sipush 256, 3) := dk_17 1 0 (dk_at dksX2_initState_1 3 rfl rfl)
theorem dX2_initState_29 : decode cX2_initState 29 = .ok (.invokestatic 23, 3) := dk_184 0 23 (dk_at dksX2_initState_1 6 rfl rfl)
theorem dX2_initState_32 : decode cX2_initState 32 = .ok (.getstatic 32, 3) := dk_178 0 32 (dk_at dksX2_initState_1 9 rfl rfl)
theorem dX2_initState_35 : decode cX2_initState 35 = .ok (.iconst 0, 1) := dk_3 (dk_at dksX2_initState_1 12 rfl rfl)
theorem dX2_initState_36 : decode cX2_initState 36 = .ok (.aload_n 0, 1) := dk_42 (dk_at dksX2_initState_1 13 rfl rfl)
theorem dX2_initState_37 : decode cX2_initState 37 = .ok (.getfield 9, 3) := dk_180 0 9 (dk_at dksX2_initState_1 14 rfl rfl)
theorem dX2_initState_40 : decode cX2_initState 40 = .ok (.sipush 512, 3) := dk_17 2 0 (dk_at dksX2_initState_1 17 rfl rfl)
theorem dX2_initState_43 : decode cX2_initState 43 = .ok (.sipush 256, 3) := dk_17 1 0 (dk_at dksX2_initState_1 20 rfl rfl)
theorem dX2_initState_46 : decode cX2_initState 46 = .ok (.invokestatic 23, 3) := dk_184 0 23 (dk_at dksX2_initState_2 0 rfl rfl)
theorem dX2_initState_49 : decode cX2_initState 49 = .ok (.getstatic 35, 3) := dk_178 0 35 (dk_at dksX2_initState_2 3 rfl rfl)
theorem dX2_initState_52 : decode cX2_initState 52 = .ok (.iconst 0, 1) := dk_3 (dk_at dksX2_initState_2 6 rfl rfl)
theorem dX2_initState_53 : decode cX2_initState 53 = .ok (.aload_n 0, 1) := dk_42 (dk_at dksX2_initState_2 7 rfl rfl)
theorem dX2_initState_54 : decode cX2_initState 54 = .ok (.getfield 9, 3) := dk_180 0 9 (dk_at dksX2_initState_2 8 rfl rfl)
theorem dX2_initState_57 : decode cX2_initState 57 = .ok (.sipush 768, 3) := dk_17 3 0 (dk_at dksX2_initState_2 11 rfl rfl)
theorem dX2_initState_60 : decode cX2_initState 60 = .ok (.sipush 256, 3) := dk_17 1 0 (dk_at dksX2_initState_2 14 rfl rfl)
theorem dX2_initState_63 : decode cX2_initState 63 = .ok (.invokestatic 23, 3) := dk_184 0 23 (dk_at dksX2_initState_2 17 rfl rfl)
theorem dX2_initState_66 : decode cX2_initState 66 = .ok (.getstatic 38, 3) := dk_178 0 38 (dk_at dksX2_initState_2 20 rfl rfl)
theorem dX2_initState_69 : decode cX2_initState 69 = .ok (.iconst 0, 1) := dk_3 (dk_at dksX2_initState_2 23 rfl rfl)
theorem dX2_initState_70 : decode cX2_initState 70 = .ok (.aload_n 0, 1) := dk_42 (dk_at dksX2_initState_3 0 rfl rfl)
theorem dX2_initState_71 : decode cX2_initState 71 = .ok (.getfield 13, 3) := dk_180 0 13 (dk_at dksX2_initState_3 1 rfl rfl)
theorem dX2_initState_74 : decode cX2_initState 74 = .ok (.iconst 0, 1) := dk_3 (dk_at dksX2_initState_3 4 rfl rfl)
theorem dX2_initState_75 : decode cX2_initState 75 = .ok (.bipush 18, 2) := dk_16 18 (dk_at dksX2_initState_3 5 rfl rfl)
theorem dX2_initState_77 : decode cX2_initState 77 = .ok (.invokestatic 23, 3) := dk_184 0 23 (dk_at dksX2_initState_3 7 rfl rfl)
theorem dX2_initState_80 : decode cX2_initState 80 = .ok (.return_, 1) := dk_177 (dk_at dksX2_initState_3 10 rfl rfl)
abbrev cX2_cyclicXorKey : ByteArray := prog_1_method_5_code
def yX2_cyclicXorKey : MethodName := ⟨RX2, "cyclicXorKey", "([B)V"⟩
def dkwX2_cyclicXorKey_3 : List UInt8 := [132, 4, 1, 167, 255, 191, 177]
abbrev dktX2_cyclicXorKey_3 : List UInt8 := dkwX2_cyclicXorKey_3 ++ []
def dkwX2_cyclicXorKey_2 : List UInt8 := [161, 0, 5, 3, 62, 132, 6, 1, 167, 255, 222, 42, 180, 0, 13, 21, 4, 92, 46, 21, 5, 130, 79]
abbrev dktX2_cyclicXorKey_2 : List UInt8 := dkwX2_cyclicXorKey_2 ++ dktX2_cyclicXorKey_3
def dkwX2_cyclicXorKey_1 : List UInt8 := [162, 0, 34, 21, 5, 16, 8, 120, 43, 29, 132, 3, 1, 51, 17, 0, 255, 126, 128, 54, 5, 29, 28]
abbrev dktX2_cyclicXorKey_1 : List UInt8 := dkwX2_cyclicXorKey_1 ++ dktX2_cyclicXorKey_2
def dkwX2_cyclicXorKey_0 : List UInt8 := [43, 190, 61, 3, 62, 3, 54, 4, 21, 4, 16, 18, 162, 0, 64, 3, 54, 5, 3, 54, 6, 21, 6, 7]
abbrev dktX2_cyclicXorKey_0 : List UInt8 := dkwX2_cyclicXorKey_0 ++ dktX2_cyclicXorKey_1
theorem dksX2_cyclicXorKey_0 : cX2_cyclicXorKey.data.toList.drop 0 = dktX2_cyclicXorKey_0 := by decide +kernel
theorem dksX2_cyclicXorKey_1 : cX2_cyclicXorKey.data.toList.drop 24 = dktX2_cyclicXorKey_1 := dk_seg dksX2_cyclicXorKey_0 24 rfl rfl
theorem dksX2_cyclicXorKey_2 : cX2_cyclicXorKey.data.toList.drop 47 = dktX2_cyclicXorKey_2 := dk_seg dksX2_cyclicXorKey_1 23 rfl rfl
theorem dksX2_cyclicXorKey_3 : cX2_cyclicXorKey.data.toList.drop 70 = dktX2_cyclicXorKey_3 := dk_seg dksX2_cyclicXorKey_2 23 rfl rfl
theorem dX2_cyclicXorKey_0 : decode cX2_cyclicXorKey 0 = .ok (.aload_n 1, 1) := dk_43 (dk_at dksX2_cyclicXorKey_0 0 rfl rfl)
theorem dX2_cyclicXorKey_1 : decode cX2_cyclicXorKey 1 = .ok (.arraylength, 1) := dk_190 (dk_at dksX2_cyclicXorKey_0 1 rfl rfl)
theorem dX2_cyclicXorKey_2 : decode cX2_cyclicXorKey 2 = .ok (.istore_n 2, 1) := dk_61 (dk_at dksX2_cyclicXorKey_0 2 rfl rfl)
theorem dX2_cyclicXorKey_3 : decode cX2_cyclicXorKey 3 = .ok (.iconst 0, 1) := dk_3 (dk_at dksX2_cyclicXorKey_0 3 rfl rfl)
theorem dX2_cyclicXorKey_4 : decode cX2_cyclicXorKey 4 = .ok (.istore_n 3, 1) := dk_62 (dk_at dksX2_cyclicXorKey_0 4 rfl rfl)
theorem dX2_cyclicXorKey_5 : decode cX2_cyclicXorKey 5 = .ok (.iconst 0, 1) := dk_3 (dk_at dksX2_cyclicXorKey_0 5 rfl rfl)
theorem dX2_cyclicXorKey_6 : decode cX2_cyclicXorKey 6 = .ok (.istore 4, 2) := dk_54 4 (dk_at dksX2_cyclicXorKey_0 6 rfl rfl)
theorem dX2_cyclicXorKey_8 : decode cX2_cyclicXorKey 8 = .ok (.iload 4, 2) := dk_21 4 (dk_at dksX2_cyclicXorKey_0 8 rfl rfl)
theorem dX2_cyclicXorKey_10 : decode cX2_cyclicXorKey 10 = .ok (.bipush 18, 2) := dk_16 18 (dk_at dksX2_cyclicXorKey_0 10 rfl rfl)
theorem dX2_cyclicXorKey_12 : decode cX2_cyclicXorKey 12 = .ok (.if_icmp .ge 64, 3) := dk_162 0 64 (dk_at dksX2_cyclicXorKey_0 12 rfl rfl)
theorem dX2_cyclicXorKey_15 : decode cX2_cyclicXorKey 15 = .ok (.iconst 0, 1) := dk_3 (dk_at dksX2_cyclicXorKey_0 15 rfl rfl)
theorem dX2_cyclicXorKey_16 : decode cX2_cyclicXorKey 16 = .ok (.istore 5, 2) := dk_54 5 (dk_at dksX2_cyclicXorKey_0 16 rfl rfl)
theorem dX2_cyclicXorKey_18 : decode cX2_cyclicXorKey 18 = .ok (.iconst 0, 1) := dk_3 (dk_at dksX2_cyclicXorKey_0 18 rfl rfl)
theorem dX2_cyclicXorKey_19 : decode cX2_cyclicXorKey 19 = .ok (.istore 6, 2) := dk_54 6 (dk_at dksX2_cyclicXorKey_0 19 rfl rfl)
theorem dX2_cyclicXorKey_21 : decode cX2_cyclicXorKey 21 = .ok (.iload 6, 2) := dk_21 6 (dk_at dksX2_cyclicXorKey_0 21 rfl rfl)
theorem dX2_cyclicXorKey_23 : decode cX2_cyclicXorKey 23 = .ok (.iconst 4, 1) := dk_7 (dk_at dksX2_cyclicXorKey_0 23 rfl rfl)
theorem dX2_cyclicXorKey_24 : decode cX2_cyclicXorKey 24 = .ok (.if_icmp .ge 34, 3) := dk_162 0 34 (dk_at dksX2_cyclicXorKey_1 0 rfl rfl)
theorem dX2_cyclicXorKey_27 : decode cX2_cyclicXorKey 27 = .ok (.iload 5, 2) := dk_21 5 (dk_at dksX2_cyclicXorKey_1 3 rfl rfl)
theorem dX2_cyclicXorKey_29 : decode cX2_cyclicXorKey 29 = .ok (.bipush 8, 2) := dk_16 8 (dk_at dksX2_cyclicXorKey_1 5 rfl rfl)
theorem dX2_cyclicXorKey_31 : decode cX2_cyclicXorKey 31 = .ok (.ishl, 1) := dk_120 (dk_at dksX2_cyclicXorKey_1 7 rfl rfl)
theorem dX2_cyclicXorKey_32 : decode cX2_cyclicXorKey 32 = .ok (.aload_n 1, 1) := dk_43 (dk_at dksX2_cyclicXorKey_1 8 rfl rfl)
theorem dX2_cyclicXorKey_33 : decode cX2_cyclicXorKey 33 = .ok (.iload_n 3, 1) := dk_29 (dk_at dksX2_cyclicXorKey_1 9 rfl rfl)
theorem dX2_cyclicXorKey_34 : decode cX2_cyclicXorKey 34 = .ok (.iinc 3 1, 3) := dk_132 3 1 (dk_at dksX2_cyclicXorKey_1 10 rfl rfl)
theorem dX2_cyclicXorKey_37 : decode cX2_cyclicXorKey 37 = .ok (.baload, 1) := dk_51 (dk_at dksX2_cyclicXorKey_1 13 rfl rfl)
theorem dX2_cyclicXorKey_38 : decode cX2_cyclicXorKey 38 = .ok (.sipush 255, 3) := dk_17 0 255 (dk_at dksX2_cyclicXorKey_1 14 rfl rfl)
theorem dX2_cyclicXorKey_41 : decode cX2_cyclicXorKey 41 = .ok (.iand, 1) := dk_126 (dk_at dksX2_cyclicXorKey_1 17 rfl rfl)
theorem dX2_cyclicXorKey_42 : decode cX2_cyclicXorKey 42 = .ok (.ior, 1) := dk_128 (dk_at dksX2_cyclicXorKey_1 18 rfl rfl)
theorem dX2_cyclicXorKey_43 : decode cX2_cyclicXorKey 43 = .ok (.istore 5, 2) := dk_54 5 (dk_at dksX2_cyclicXorKey_1 19 rfl rfl)
theorem dX2_cyclicXorKey_45 : decode cX2_cyclicXorKey 45 = .ok (.iload_n 3, 1) := dk_29 (dk_at dksX2_cyclicXorKey_1 21 rfl rfl)
theorem dX2_cyclicXorKey_46 : decode cX2_cyclicXorKey 46 = .ok (.iload_n 2, 1) := dk_28 (dk_at dksX2_cyclicXorKey_1 22 rfl rfl)
theorem dX2_cyclicXorKey_47 : decode cX2_cyclicXorKey 47 = .ok (.if_icmp .lt 5, 3) := dk_161 0 5 (dk_at dksX2_cyclicXorKey_2 0 rfl rfl)
theorem dX2_cyclicXorKey_50 : decode cX2_cyclicXorKey 50 = .ok (.iconst 0, 1) := dk_3 (dk_at dksX2_cyclicXorKey_2 3 rfl rfl)
theorem dX2_cyclicXorKey_51 : decode cX2_cyclicXorKey 51 = .ok (.istore_n 3, 1) := dk_62 (dk_at dksX2_cyclicXorKey_2 4 rfl rfl)
theorem dX2_cyclicXorKey_52 : decode cX2_cyclicXorKey 52 = .ok (.iinc 6 1, 3) := dk_132 6 1 (dk_at dksX2_cyclicXorKey_2 5 rfl rfl)
theorem dX2_cyclicXorKey_55 : decode cX2_cyclicXorKey 55 = .ok (.goto (-34), 3) := dk_167 255 222 (dk_at dksX2_cyclicXorKey_2 8 rfl rfl)
theorem dX2_cyclicXorKey_58 : decode cX2_cyclicXorKey 58 = .ok (.aload_n 0, 1) := dk_42 (dk_at dksX2_cyclicXorKey_2 11 rfl rfl)
theorem dX2_cyclicXorKey_59 : decode cX2_cyclicXorKey 59 = .ok (.getfield 13, 3) := dk_180 0 13 (dk_at dksX2_cyclicXorKey_2 12 rfl rfl)
theorem dX2_cyclicXorKey_62 : decode cX2_cyclicXorKey 62 = .ok (.iload 4, 2) := dk_21 4 (dk_at dksX2_cyclicXorKey_2 15 rfl rfl)
theorem dX2_cyclicXorKey_64 : decode cX2_cyclicXorKey 64 = .ok (.dup2, 1) := dk_92 (dk_at dksX2_cyclicXorKey_2 17 rfl rfl)
theorem dX2_cyclicXorKey_65 : decode cX2_cyclicXorKey 65 = .ok (.iaload, 1) := dk_46 (dk_at dksX2_cyclicXorKey_2 18 rfl rfl)
theorem dX2_cyclicXorKey_66 : decode cX2_cyclicXorKey 66 = .ok (.iload 5, 2) := dk_21 5 (dk_at dksX2_cyclicXorKey_2 19 rfl rfl)
theorem dX2_cyclicXorKey_68 : decode cX2_cyclicXorKey 68 = .ok (.ixor, 1) := dk_130 (dk_at dksX2_cyclicXorKey_2 21 rfl rfl)
theorem dX2_cyclicXorKey_69 : decode cX2_cyclicXorKey 69 = .ok (.iastore, 1) := dk_79 (dk_at dksX2_cyclicXorKey_2 22 rfl rfl)
theorem dX2_cyclicXorKey_70 : decode cX2_cyclicXorKey 70 = .ok (.iinc 4 1, 3) := dk_132 4 1 (dk_at dksX2_cyclicXorKey_3 0 rfl rfl)
theorem dX2_cyclicXorKey_73 : decode cX2_cyclicXorKey 73 = .ok (.goto (-65), 3) := dk_167 255 191 (dk_at dksX2_cyclicXorKey_3 3 rfl rfl)
theorem dX2_cyclicXorKey_76 : decode cX2_cyclicXorKey 76 = .ok (.return_, 1) := dk_177 (dk_at dksX2_cyclicXorKey_3 6 rfl rfl)
abbrev cX2_processTableWithSalt : ByteArray := prog_1_method_7_code
def yX2_processTableWithSalt : MethodName := ⟨RX2, "processTableWithSalt", "([I[III)V"⟩
def dkwX2_processTableWithSalt_11 : List UInt8 := [130, 54, 6, 132, 10, 4, 167, 255, 14, 177]
abbrev dktX2_processTableWithSalt_11 : List UInt8 := dkwX2_processTableWithSalt_11 ++ []
def dkwX2_processTableWithSalt_10 : List UInt8 := [21, 8, 79, 43, 21, 10, 6, 96, 21, 7, 79, 44, 3, 46, 21, 8, 130, 54, 5, 44, 4, 46, 21, 7]
abbrev dktX2_processTableWithSalt_10 : List UInt8 := dkwX2_processTableWithSalt_10 ++ dktX2_processTableWithSalt_11
def dkwX2_processTableWithSalt_9 : List UInt8 := [132, 11, 2, 167, 255, 206, 21, 8, 42, 180, 0, 13, 16, 17, 46, 130, 54, 8, 43, 21, 10, 5, 96]
abbrev dktX2_processTableWithSalt_9 : List UInt8 := dkwX2_processTableWithSalt_9 ++ dktX2_processTableWithSalt_10
def dkwX2_processTableWithSalt_8 : List UInt8 := [54, 8, 21, 7, 42, 21, 8, 182, 0, 16, 42, 180, 0, 13, 21, 11, 4, 96, 46, 130, 130, 54, 7]
abbrev dktX2_processTableWithSalt_8 : List UInt8 := dkwX2_processTableWithSalt_8 ++ dktX2_processTableWithSalt_9
def dkwX2_processTableWithSalt_7 : List UInt8 := [21, 11, 16, 16, 162, 0, 49, 21, 8, 42, 21, 7, 182, 0, 16, 42, 180, 0, 13, 21, 11, 46, 130, 130]
abbrev dktX2_processTableWithSalt_7 : List UInt8 := dkwX2_processTableWithSalt_7 ++ dktX2_processTableWithSalt_8
def dkwX2_processTableWithSalt_6 : List UInt8 := [96, 21, 9, 161, 0, 6, 167, 0, 120, 21, 7, 42, 180, 0, 13, 3, 46, 130, 54, 7, 4, 54, 11]
abbrev dktX2_processTableWithSalt_6 : List UInt8 := dkwX2_processTableWithSalt_6 ++ dktX2_processTableWithSalt_7
def dkwX2_processTableWithSalt_5 : List UInt8 := [4, 96, 21, 5, 79, 44, 5, 46, 21, 6, 130, 54, 7, 44, 6, 46, 21, 5, 130, 54, 8, 21, 10, 5]
abbrev dktX2_processTableWithSalt_5 : List UInt8 := dkwX2_processTableWithSalt_5 ++ dktX2_processTableWithSalt_6
def dkwX2_processTableWithSalt_4 : List UInt8 := [167, 255, 206, 21, 6, 42, 180, 0, 13, 16, 17, 46, 130, 54, 6, 43, 21, 10, 21, 6, 79, 43, 21, 10]
abbrev dktX2_processTableWithSalt_4 : List UInt8 := dkwX2_processTableWithSalt_4 ++ dktX2_processTableWithSalt_5
def dkwX2_processTableWithSalt_3 : List UInt8 := [42, 21, 6, 182, 0, 16, 42, 180, 0, 13, 21, 11, 4, 96, 46, 130, 130, 54, 5, 132, 11, 2]
abbrev dktX2_processTableWithSalt_3 : List UInt8 := dkwX2_processTableWithSalt_3 ++ dktX2_processTableWithSalt_4
def dkwX2_processTableWithSalt_2 : List UInt8 := [162, 0, 49, 21, 6, 42, 21, 5, 182, 0, 16, 42, 180, 0, 13, 21, 11, 46, 130, 130, 54, 6, 21, 5]
abbrev dktX2_processTableWithSalt_2 : List UInt8 := dkwX2_processTableWithSalt_2 ++ dktX2_processTableWithSalt_3
def dkwX2_processTableWithSalt_1 : List UInt8 := [21, 9, 162, 0, 241, 21, 5, 42, 180, 0, 13, 3, 46, 130, 54, 5, 4, 54, 11, 21, 11, 16, 16]
abbrev dktX2_processTableWithSalt_1 : List UInt8 := dkwX2_processTableWithSalt_1 ++ dktX2_processTableWithSalt_2
def dkwX2_processTableWithSalt_0 : List UInt8 := [29, 44, 3, 46, 130, 54, 5, 21, 4, 44, 4, 46, 130, 54, 6, 43, 190, 54, 9, 3, 54, 10, 21, 10]
abbrev dktX2_processTableWithSalt_0 : List UInt8 := dkwX2_processTableWithSalt_0 ++ dktX2_processTableWithSalt_1
theorem dksX2_processTableWithSalt_0 : cX2_processTableWithSalt.data.toList.drop 0 = dktX2_processTableWithSalt_0 := by decide +kernel
theorem dksX2_processTableWithSalt_1 : cX2_processTableWithSalt.data.toList.drop 24 = dktX2_processTableWithSalt_1 := dk_seg dksX2_processTableWithSalt_0 24 rfl rfl
theorem dksX2_processTableWithSalt_2 : cX2_processTableWithSalt.data.toList.drop 47 = dktX2_processTableWithSalt_2 := dk_seg dksX2_processTableWithSalt_1 23 rfl rfl
theorem dksX2_processTableWithSalt_3 : cX2_processTableWithSalt.data.toList.drop 71 = dktX2_processTableWithSalt_3 := dk_seg dksX2_processTableWithSalt_2 24 rfl rfl
theorem dksX2_processTableWithSalt_4 : cX2_processTableWithSalt.data.toList.drop 93 = dktX2_processTableWithSalt_4 := dk_seg dksX2_processTableWithSalt_3 22 rfl rfl
theorem dksX2_processTableWithSalt_5 : cX2_processTableWithSalt.data.toList.drop 117 = dktX2_processTableWithSalt_5 := dk_seg dksX2_processTableWithSalt_4 24 rfl rfl
theorem dksX2_processTableWithSalt_6 : cX2_processTableWithSalt.data.toList.drop 141 = dktX2_processTableWithSalt_6 := dk_seg dksX2_processTableWithSalt_5 24 rfl rfl
theorem dksX2_processTableWithSalt_7 : cX2_processTableWithSalt.data.toList.drop 164 = dktX2_processTableWithSalt_7 := dk_seg dksX2_processTableWithSalt_6 23 rfl rfl
theorem dksX2_processTableWithSalt_8 : cX2_processTableWithSalt.data.toList.drop 188 = dktX2_processTableWithSalt_8 := dk_seg dksX2_processTableWithSalt_7 24 rfl rfl
theorem dksX2_processTableWithSalt_9 : cX2_processTableWithSalt.data.toList.drop 211 = dktX2_processTableWithSalt_9 := dk_seg dksX2_processTableWithSalt_8 23 rfl rfl
theorem dksX2_processTableWithSalt_10 : cX2_processTableWithSalt.data.toList.drop 234 = dktX2_processTableWithSalt_10 := dk_seg dksX2_processTableWithSalt_9 23 rfl rfl
theorem dksX2_processTableWithSalt_11 : cX2_processTableWithSalt.data.toList.drop 258 = dktX2_processTableWithSalt_11 := dk_seg dksX2_processTableWithSalt_10 24 rfl rfl
theorem dX2_processTableWithSalt_0 : decode cX2_processTableWithSalt 0 = .ok (.iload_n 3, 1) := dk_29 (dk_at dksX2_processTableWithSalt_0 0 rfl rfl)
theorem dX2_processTableWithSalt_1 : decode cX2_processTableWithSalt 1 = .ok (.aload_n 2, 1) := dk_44 (dk_at dksX2_processTableWithSalt_0 1 rfl rfl)
theorem dX2_processTableWithSalt_2 : decode cX2_processTableWithSalt 2 = .ok (.iconst 0, 1) := dk_3 (dk_at dksX2_processTableWithSalt_0 2 rfl rfl)
theorem dX2_processTableWithSalt_3 : decode cX2_processTableWithSalt 3 = .ok (.iaload, 1) := dk_46 (dk_at dksX2_processTableWithSalt_0 3 rfl rfl)
theorem dX2_processTableWithSalt_4 : decode cX2_processTableWithSalt 4 = .ok (.ixor, 1) := dk_130 (dk_at dksX2_processTableWithSalt_0 4 rfl rfl)
theorem dX2_processTableWithSalt_5 : decode cX2_processTableWithSalt 5 = .ok (.istore 5, 2) := dk_54 5 (dk_at dksX2_processTableWithSalt_0 5 rfl rfl)
theorem dX2_processTableWithSalt_7 : decode cX2_processTableWithSalt 7 = .ok (.iload 4, 2) := dk_21 4 (dk_at dksX2_processTableWithSalt_0 7 rfl rfl)
theorem dX2_processTableWithSalt_9 : decode cX2_processTableWithSalt 9 = .ok (.aload_n 2, 1) := dk_44 (dk_at dksX2_processTableWithSalt_0 9 rfl rfl)
theorem dX2_processTableWithSalt_10 : decode cX2_processTableWithSalt 10 = .ok (.iconst 1, 1) := dk_4 (dk_at dksX2_processTableWithSalt_0 10 rfl rfl)
theorem dX2_processTableWithSalt_11 : decode cX2_processTableWithSalt 11 = .ok (.iaload, 1) := dk_46 (dk_at dksX2_processTableWithSalt_0 11 rfl rfl)
theorem dX2_processTableWithSalt_12 : decode cX2_processTableWithSalt 12 = .ok (.ixor, 1) := dk_130 (dk_at dksX2_processTableWithSalt_0 12 rfl rfl)
theorem dX2_processTableWithSalt_13 : decode cX2_processTableWithSalt 13 = .ok (.istore 6, 2) := dk_54 6 (dk_at dksX2_processTableWithSalt_0 13 rfl rfl)
theorem dX2_processTableWithSalt_15 : decode cX2_processTableWithSalt 15 = .ok (.aload_n 1, 1) := dk_43 (dk_at dksX2_processTableWithSalt_0 15 rfl rfl)
theorem dX2_processTableWithSalt_16 : decode cX2_processTableWithSalt 16 = .ok (.arraylength, 1) := dk_190 (dk_at dksX2_processTableWithSalt_0 16 rfl rfl)
theorem dX2_processTableWithSalt_17 : decode cX2_processTableWithSalt 17 = .ok (.istore 9, 2) := dk_54 9 (dk_at dksX2_processTableWithSalt_0 17 rfl rfl)
theorem dX2_processTableWithSalt_19 : decode cX2_processTableWithSalt 19 = .ok (.iconst 0, 1) := dk_3 (dk_at dksX2_processTableWithSalt_0 19 rfl rfl)
theorem dX2_processTableWithSalt_20 : decode cX2_processTableWithSalt 20 = .ok (.istore 10, 2) := dk_54 10 (dk_at dksX2_processTableWithSalt_0 20 rfl rfl)
theorem dX2_processTableWithSalt_22 : decode cX2_processTableWithSalt 22 = .ok (.iload 10, 2) := dk_21 10 (dk_at dksX2_processTableWithSalt_0 22 rfl rfl)
theorem dX2_processTableWithSalt_24 : decode cX2_processTableWithSalt 24 = .ok (.iload 9, 2) := dk_21 9 (dk_at dksX2_processTableWithSalt_1 0 rfl rfl)
theorem dX2_processTableWithSalt_26 : decode cX2_processTableWithSalt 26 = .ok (.if_icmp .ge 241, 3) := dk_162 0 241 (dk_at dksX2_processTableWithSalt_1 2 rfl rfl)
theorem dX2_processTableWithSalt_29 : decode cX2_processTableWithSalt 29 = .ok (.iload 5, 2) := dk_21 5 (dk_at dksX2_processTableWithSalt_1 5 rfl rfl)
theorem dX2_processTableWithSalt_31 : decode cX2_processTableWithSalt 31 = .ok (.aload_n 0, 1) := dk_42 (dk_at dksX2_processTableWithSalt_1 7 rfl rfl)
theorem dX2_processTableWithSalt_32 : decode cX2_processTableWithSalt 32 = .ok (.getfield 13, 3) := dk_180 0 13 (dk_at dksX2_processTableWithSalt_1 8 rfl rfl)
theorem dX2_processTableWithSalt_35 : decode cX2_processTableWithSalt 35 = .ok (.iconst 0, 1) := dk_3 (dk_at dksX2_processTableWithSalt_1 11 rfl rfl)
theorem dX2_processTableWithSalt_36 : decode cX2_processTableWithSalt 36 = .ok (.iaload, 1) := dk_46 (dk_at dksX2_processTableWithSalt_1 12 rfl rfl)
theorem dX2_processTableWithSalt_37 : decode cX2_processTableWithSalt 37 = .ok (.ixor, 1) := dk_130 (dk_at dksX2_processTableWithSalt_1 13 rfl rfl)
theorem dX2_processTableWithSalt_38 : decode cX2_processTableWithSalt 38 = .ok (.istore 5, 2) := dk_54 5 (dk_at dksX2_processTableWithSalt_1 14 rfl rfl)
theorem dX2_processTableWithSalt_40 : decode cX2_processTableWithSalt 40 = .ok (.iconst 1, 1) := dk_4 (dk_at dksX2_processTableWithSalt_1 16 rfl rfl)
theorem dX2_processTableWithSalt_41 : decode cX2_processTableWithSalt 41 = .ok (.istore 11, 2) := dk_54 11 (dk_at dksX2_processTableWithSalt_1 17 rfl rfl)
theorem dX2_processTableWithSalt_43 : decode cX2_processTableWithSalt 43 = .ok (.iload 11, 2) := dk_21 11 (dk_at dksX2_processTableWithSalt_1 19 rfl rfl)
theorem dX2_processTableWithSalt_45 : decode cX2_processTableWithSalt 45 = .ok (.bipush 16, 2) := dk_16 16 (dk_at dksX2_processTableWithSalt_1 21 rfl rfl)
theorem dX2_processTableWithSalt_47 : decode cX2_processTableWithSalt 47 = .ok (.if_icmp .ge 49, 3) := dk_162 0 49 (dk_at dksX2_processTableWithSalt_2 0 rfl rfl)
theorem dX2_processTableWithSalt_50 : decode cX2_processTableWithSalt 50 = .ok (.iload 6, 2) := dk_21 6 (dk_at dksX2_processTableWithSalt_2 3 rfl rfl)
theorem dX2_processTableWithSalt_52 : decode cX2_processTableWithSalt 52 = .ok (.aload_n 0, 1) := dk_42 (dk_at dksX2_processTableWithSalt_2 5 rfl rfl)
theorem dX2_processTableWithSalt_53 : decode cX2_processTableWithSalt 53 = .ok (.iload 5, 2) := dk_21 5 (dk_at dksX2_processTableWithSalt_2 6 rfl rfl)
theorem dX2_processTableWithSalt_55 : decode cX2_processTableWithSalt 55 = .ok (.invokevirtual 16, 3) := dk_182 0 16 (dk_at dksX2_processTableWithSalt_2 8 rfl rfl)
theorem dX2_processTableWithSalt_58 : decode cX2_processTableWithSalt 58 = .ok (.aload_n 0, 1) := dk_42 (dk_at dksX2_processTableWithSalt_2 11 rfl rfl)
theorem dX2_processTableWithSalt_59 : decode cX2_processTableWithSalt 59 = .ok (.getfield 13, 3) := dk_180 0 13 (dk_at dksX2_processTableWithSalt_2 12 rfl rfl)
theorem dX2_processTableWithSalt_62 : decode cX2_processTableWithSalt 62 = .ok (.iload 11, 2) := dk_21 11 (dk_at dksX2_processTableWithSalt_2 15 rfl rfl)
theorem dX2_processTableWithSalt_64 : decode cX2_processTableWithSalt 64 = .ok (.iaload, 1) := dk_46 (dk_at dksX2_processTableWithSalt_2 17 rfl rfl)
theorem dX2_processTableWithSalt_65 : decode cX2_processTableWithSalt 65 = .ok (.ixor, 1) := dk_130 (dk_at dksX2_processTableWithSalt_2 18 rfl rfl)
theorem dX2_processTableWithSalt_66 : decode cX2_processTableWithSalt 66 = .ok (.ixor, 1) := dk_130 (dk_at dksX2_processTableWithSalt_2 19 rfl rfl)
theorem dX2_processTableWithSalt_67 : decode cX2_processTableWithSalt 67 = .ok (.istore 6, 2) := dk_54 6 (dk_at dksX2_processTableWithSalt_2 20 rfl rfl)
theorem dX2_processTableWithSalt_69 : decode cX2_processTableWithSalt 69 = .ok (.iload 5, 2) := dk_21 5 (dk_at dksX2_processTableWithSalt_2 22 rfl rfl)
theorem dX2_processTableWithSalt_71 : decode cX2_processTableWithSalt 71 = .ok (.aload_n 0, 1) := dk_42 (dk_at dksX2_processTableWithSalt_3 0 rfl rfl)
theorem dX2_processTableWithSalt_72 : decode cX2_processTableWithSalt 72 = .ok (.iload 6, 2) := dk_21 6 (dk_at dksX2_processTableWithSalt_3 1 rfl rfl)
theorem dX2_processTableWithSalt_74 : decode cX2_processTableWithSalt 74 = .ok (.invokevirtual 16, 3) := dk_182 0 16 (dk_at dksX2_processTableWithSalt_3 3 rfl rfl)
theorem dX2_processTableWithSalt_77 : decode cX2_processTableWithSalt 77 = .ok (.aload_n 0, 1) := dk_42 (dk_at dksX2_processTableWithSalt_3 6 rfl rfl)
theorem dX2_processTableWithSalt_78 : decode cX2_processTableWithSalt 78 = .ok (.getfield 13, 3) := dk_180 0 13 (dk_at dksX2_processTableWithSalt_3 7 rfl rfl)
theorem dX2_processTableWithSalt_81 : decode cX2_processTableWithSalt 81 = .ok (.iload 11, 2) := dk_21 11 (dk_at dksX2_processTableWithSalt_3 10 rfl rfl)
theorem dX2_processTableWithSalt_83 : decode cX2_processTableWithSalt 83 = .ok (.iconst 1, 1) := dk_4 (dk_at dksX2_processTableWithSalt_3 12 rfl rfl)
theorem dX2_processTableWithSalt_84 : decode cX2_processTableWithSalt 84 = .ok (.iadd, 1) := dk_96 (dk_at dksX2_processTableWithSalt_3 13 rfl rfl)
theorem dX2_processTableWithSalt_85 : decode cX2_processTableWithSalt 85 = .ok (.iaload, 1) := dk_46 (dk_at dksX2_processTableWithSalt_3 14 rfl rfl)
theorem dX2_processTableWithSalt_86 : decode cX2_processTableWithSalt 86 = .ok (.ixor, 1) := dk_130 (dk_at dksX2_processTableWithSalt_3 15 rfl rfl)
theorem dX2_processTableWithSalt_87 : decode cX2_processTableWithSalt 87 = .ok (.ixor, 1) := dk_130 (dk_at dksX2_processTableWithSalt_3 16 rfl rfl)
theorem dX2_processTableWithSalt_88 : decode cX2_processTableWithSalt 88 = .ok (.istore 5, 2) := dk_54 5 (dk_at dksX2_processTableWithSalt_3 17 rfl rfl)
theorem dX2_processTableWithSalt_90 : decode cX2_processTableWithSalt 90 = .ok (.iinc 11 2, 3) := dk_132 11 2 (dk_at dksX2_processTableWithSalt_3 19 rfl rfl)
theorem dX2_processTableWithSalt_93 : decode cX2_processTableWithSalt 93 = .ok (.goto (-50), 3) := dk_167 255 206 (dk_at dksX2_processTableWithSalt_4 0 rfl rfl)
theorem dX2_processTableWithSalt_96 : decode cX2_processTableWithSalt 96 = .ok (.iload 6, 2) := dk_21 6 (dk_at dksX2_processTableWithSalt_4 3 rfl rfl)
theorem dX2_processTableWithSalt_98 : decode cX2_processTableWithSalt 98 = .ok (.aload_n 0, 1) := dk_42 (dk_at dksX2_processTableWithSalt_4 5 rfl rfl)
theorem dX2_processTableWithSalt_99 : decode cX2_processTableWithSalt 99 = .ok (.getfield 13, 3) := dk_180 0 13 (dk_at dksX2_processTableWithSalt_4 6 rfl rfl)
theorem dX2_processTableWithSalt_102 : decode cX2_processTableWithSalt 102 = .ok (.bipush 17, 2) := dk_16 17 (dk_at dksX2_processTableWithSalt_4 9 rfl rfl)
theorem dX2_processTableWithSalt_104 : decode cX2_processTableWithSalt 104 = .ok (.iaload, 1) := dk_46 (dk_at dksX2_processTableWithSalt_4 11 rfl rfl)
theorem dX2_processTableWithSalt_105 : decode cX2_processTableWithSalt 105 = .ok (.ixor, 1) := dk_130 (dk_at dksX2_processTableWithSalt_4 12 rfl rfl)
theorem dX2_processTableWithSalt_106 : decode cX2_processTableWithSalt 106 = .ok (.istore 6, 2) := dk_54 6 (dk_at dksX2_processTableWithSalt_4 13 rfl rfl)
theorem dX2_processTableWithSalt_108 : decode cX2_processTableWithSalt 108 = .ok (.aload_n 1, 1) := dk_43 (dk_at dksX2_processTableWithSalt_4 15 rfl rfl)
theorem dX2_processTableWithSalt_109 : decode cX2_processTableWithSalt 109 = .ok (.iload 10, 2) := dk_21 10 (dk_at dksX2_processTableWithSalt_4 16 rfl rfl)
theorem dX2_processTableWithSalt_111 : decode cX2_processTableWithSalt 111 = .ok (.iload 6, 2) := dk_21 6 (dk_at dksX2_processTableWithSalt_4 18 rfl rfl)
theorem dX2_processTableWithSalt_113 : decode cX2_processTableWithSalt 113 = .ok (.iastore, 1) := dk_79 (dk_at dksX2_processTableWithSalt_4 20 rfl rfl)
theorem dX2_processTableWithSalt_114 : decode cX2_processTableWithSalt 114 = .ok (.aload_n 1, 1) := dk_43 (dk_at dksX2_processTableWithSalt_4 21 rfl rfl)
theorem dX2_processTableWithSalt_115 : decode cX2_processTableWithSalt 115 = .ok (.iload 10, 2) := dk_21 10 (dk_at dksX2_processTableWithSalt_4 22 rfl rfl)
theorem dX2_processTableWithSalt_117 : decode cX2_processTableWithSalt 117 = .ok (.iconst 1, 1) := dk_4 (dk_at dksX2_processTableWithSalt_5 0 rfl rfl)
theorem dX2_processTableWithSalt_118 : decode cX2_processTableWithSalt 118 = .ok (.iadd, 1) := dk_96 (dk_at dksX2_processTableWithSalt_5 1 rfl rfl)
theorem dX2_processTableWithSalt_119 : decode cX2_processTableWithSalt 119 = .ok (.iload 5, 2) := dk_21 5 (dk_at dksX2_processTableWithSalt_5 2 rfl rfl)
theorem dX2_processTableWithSalt_121 : decode cX2_processTableWithSalt 121 = .ok (.iastore, 1) := dk_79 (dk_at dksX2_processTableWithSalt_5 4 rfl rfl)
theorem dX2_processTableWithSalt_122 : decode cX2_processTableWithSalt 122 = .ok (.aload_n 2, 1) := dk_44 (dk_at dksX2_processTableWithSalt_5 5 rfl rfl)
theorem dX2_processTableWithSalt_123 : decode cX2_processTableWithSalt 123 = .ok (.iconst 2, 1) := dk_5 (dk_at dksX2_processTableWithSalt_5 6 rfl rfl)
theorem dX2_processTableWithSalt_124 : decode cX2_processTableWithSalt 124 = .ok (.iaload, 1) := dk_46 (dk_at dksX2_processTableWithSalt_5 7 rfl rfl)
theorem dX2_processTableWithSalt_125 : decode cX2_processTableWithSalt 125 = .ok (.iload 6, 2) := dk_21 6 (dk_at dksX2_processTableWithSalt_5 8 rfl rfl)
theorem dX2_processTableWithSalt_127 : decode cX2_processTableWithSalt 127 = .ok (.ixor, 1) := dk_130 (dk_at dksX2_processTableWithSalt_5 10 rfl rfl)
theorem dX2_processTableWithSalt_128 : decode cX2_processTableWithSalt 128 = .ok (.istore 7, 2) := dk_54 7 (dk_at dksX2_processTableWithSalt_5 11 rfl rfl)
theorem dX2_processTableWithSalt_130 : decode cX2_processTableWithSalt 130 = .ok (.aload_n 2, 1) := dk_44 (dk_at dksX2_processTableWithSalt_5 13 rfl rfl)
theorem dX2_processTableWithSalt_131 : decode cX2_processTableWithSalt 131 = .ok (.iconst 3, 1) := dk_6 (dk_at dksX2_processTableWithSalt_5 14 rfl rfl)
theorem dX2_processTableWithSalt_132 : decode cX2_processTableWithSalt 132 = .ok (.iaload, 1) := dk_46 (dk_at dksX2_processTableWithSalt_5 15 rfl rfl)
theorem dX2_processTableWithSalt_133 : decode cX2_processTableWithSalt 133 = .ok (.iload 5, 2) := dk_21 5 (dk_at dksX2_processTableWithSalt_5 16 rfl rfl)
theorem dX2_processTableWithSalt_135 : decode cX2_processTableWithSalt 135 = .ok (.ixor, 1) := dk_130 (dk_at dksX2_processTableWithSalt_5 18 rfl rfl)
theorem dX2_processTableWithSalt_136 : decode cX2_processTableWithSalt 136 = .ok (.istore 8, 2) := dk_54 8 (dk_at dksX2_processTableWithSalt_5 19 rfl rfl)
theorem dX2_processTableWithSalt_138 : decode cX2_processTableWithSalt 138 = .ok (.iload 10, 2) := dk_21 10 (dk_at dksX2_processTableWithSalt_5 21 rfl rfl)
theorem dX2_processTableWithSalt_140 : decode cX2_processTableWithSalt 140 = .ok (.iconst 2, 1) := dk_5 (dk_at dksX2_processTableWithSalt_5 23 rfl rfl)
theorem dX2_processTableWithSalt_141 : decode cX2_processTableWithSalt 141 = .ok (.iadd, 1) := dk_96 (dk_at dksX2_processTableWithSalt_6 0 rfl rfl)
theorem dX2_processTableWithSalt_142 : decode cX2_processTableWithSalt 142 = .ok (.iload 9, 2) := dk_21 9 (dk_at dksX2_processTableWithSalt_6 1 rfl rfl)
theorem dX2_processTableWithSalt_144 : decode cX2_processTableWithSalt 144 = .ok (.if_icmp .lt 6, 3) := dk_161 0 6 (dk_at dksX2_processTableWithSalt_6 3 rfl rfl)
theorem dX2_processTableWithSalt_147 : decode cX2_processTableWithSalt 147 = .ok (.goto 120, 3) := dk_167 0 120 (dk_at dksX2_processTableWithSalt_6 6 rfl rfl)
theorem dX2_processTableWithSalt_150 : decode cX2_processTableWithSalt 150 = .ok (.iload 7, 2) := dk_21 7 (dk_at dksX2_processTableWithSalt_6 9 rfl rfl)
theorem dX2_processTableWithSalt_152 : decode cX2_processTableWithSalt 152 = .ok (.aload_n 0, 1) := dk_42 (dk_at dksX2_processTableWithSalt_6 11 rfl rfl)
theorem dX2_processTableWithSalt_153 : decode cX2_processTableWithSalt 153 = .ok (.getfield 13, 3) := dk_180 0 13 (dk_at dksX2_processTableWithSalt_6 12 rfl rfl)
theorem dX2_processTableWithSalt_156 : decode cX2_processTableWithSalt 156 = .ok (.iconst 0, 1) := dk_3 (dk_at dksX2_processTableWithSalt_6 15 rfl rfl)
theorem dX2_processTableWithSalt_157 : decode cX2_processTableWithSalt 157 = .ok (.iaload, 1) := dk_46 (dk_at dksX2_processTableWithSalt_6 16 rfl rfl)
theorem dX2_processTableWithSalt_158 : decode cX2_processTableWithSalt 158 = .ok (.ixor, 1) := dk_130 (dk_at dksX2_processTableWithSalt_6 17 rfl rfl)
theorem dX2_processTableWithSalt_159 : decode cX2_processTableWithSalt 159 = .ok (.istore 7, 2) := dk_54 7 (dk_at dksX2_processTableWithSalt_6 18 rfl rfl)
theorem dX2_processTableWithSalt_161 : decode cX2_processTableWithSalt 161 = .ok (.iconst 1, 1) := dk_4 (dk_at dksX2_processTableWithSalt_6 20 rfl rfl)
theorem dX2_processTableWithSalt_162 : decode cX2_processTableWithSalt 162 = .ok (.istore 11, 2) := dk_54 11 (dk_at dksX2_processTableWithSalt_6 21 rfl rfl)
theorem dX2_processTableWithSalt_164 : decode cX2_processTableWithSalt 164 = .ok (.iload 11, 2) := dk_21 11 (dk_at dksX2_processTableWithSalt_7 0 rfl rfl)
theorem dX2_processTableWithSalt_166 : decode cX2_processTableWithSalt 166 = .ok (.bipush 16, 2) := dk_16 16 (dk_at dksX2_processTableWithSalt_7 2 rfl rfl)
theorem dX2_processTableWithSalt_168 : decode cX2_processTableWithSalt 168 = .ok (.if_icmp .ge 49, 3) := dk_162 0 49 (dk_at dksX2_processTableWithSalt_7 4 rfl rfl)
theorem dX2_processTableWithSalt_171 : decode cX2_processTableWithSalt 171 = .ok (.iload 8, 2) := dk_21 8 (dk_at dksX2_processTableWithSalt_7 7 rfl rfl)
theorem dX2_processTableWithSalt_173 : decode cX2_processTableWithSalt 173 = .ok (.aload_n 0, 1) := dk_42 (dk_at dksX2_processTableWithSalt_7 9 rfl rfl)
theorem dX2_processTableWithSalt_174 : decode cX2_processTableWithSalt 174 = .ok (.iload 7, 2) := dk_21 7 (dk_at dksX2_processTableWithSalt_7 10 rfl rfl)
theorem dX2_processTableWithSalt_176 : decode cX2_processTableWithSalt 176 = .ok (.invokevirtual 16, 3) := dk_182 0 16 (dk_at dksX2_processTableWithSalt_7 12 rfl rfl)
theorem dX2_processTableWithSalt_179 : decode cX2_processTableWithSalt 179 = .ok (.aload_n 0, 1) := dk_42 (dk_at dksX2_processTableWithSalt_7 15 rfl rfl)
theorem dX2_processTableWithSalt_180 : decode cX2_processTableWithSalt 180 = .ok (.getfield 13, 3) := dk_180 0 13 (dk_at dksX2_processTableWithSalt_7 16 rfl rfl)
theorem dX2_processTableWithSalt_183 : decode cX2_processTableWithSalt 183 = .ok (.iload 11, 2) := dk_21 11 (dk_at dksX2_processTableWithSalt_7 19 rfl rfl)
theorem dX2_processTableWithSalt_185 : decode cX2_processTableWithSalt 185 = .ok (.iaload, 1) := dk_46 (dk_at dksX2_processTableWithSalt_7 21 rfl rfl)
theorem dX2_processTableWithSalt_186 : decode cX2_processTableWithSalt 186 = .ok (.ixor, 1) := dk_130 (dk_at dksX2_processTableWithSalt_7 22 rfl rfl)
theorem dX2_processTableWithSalt_187 : decode cX2_processTableWithSalt 187 = .ok (.ixor, 1) := dk_130 (dk_at dksX2_processTableWithSalt_7 23 rfl rfl)
theorem dX2_processTableWithSalt_188 : decode cX2_processTableWithSalt 188 = .ok (.istore 8, 2) := dk_54 8 (dk_at dksX2_processTableWithSalt_8 0 rfl rfl)
theorem dX2_processTableWithSalt_190 : decode cX2_processTableWithSalt 190 = .ok (.iload 7, 2) := dk_21 7 (dk_at dksX2_processTableWithSalt_8 2 rfl rfl)
theorem dX2_processTableWithSalt_192 : decode cX2_processTableWithSalt 192 = .ok (.aload_n 0, 1) := dk_42 (dk_at dksX2_processTableWithSalt_8 4 rfl rfl)
theorem dX2_processTableWithSalt_193 : decode cX2_processTableWithSalt 193 = .ok (.iload 8, 2) := dk_21 8 (dk_at dksX2_processTableWithSalt_8 5 rfl rfl)
theorem dX2_processTableWithSalt_195 : decode cX2_processTableWithSalt 195 = .ok (.invokevirtual 16, 3) := dk_182 0 16 (dk_at dksX2_processTableWithSalt_8 7 rfl rfl)
theorem dX2_processTableWithSalt_198 : decode cX2_processTableWithSalt 198 = .ok (.aload_n 0, 1) := dk_42 (dk_at dksX2_processTableWithSalt_8 10 rfl rfl)
theorem dX2_processTableWithSalt_199 : decode cX2_processTableWithSalt 199 = .ok (.getfield 13, 3) := dk_180 0 13 (dk_at dksX2_processTableWithSalt_8 11 rfl rfl)
theorem dX2_processTableWithSalt_202 : decode cX2_processTableWithSalt 202 = .ok (.iload 11, 2) := dk_21 11 (dk_at dksX2_processTableWithSalt_8 14 rfl rfl)
theorem dX2_processTableWithSalt_204 : decode cX2_processTableWithSalt 204 = .ok (.iconst 1, 1) := dk_4 (dk_at dksX2_processTableWithSalt_8 16 rfl rfl)
theorem dX2_processTableWithSalt_205 : decode cX2_processTableWithSalt 205 = .ok (.iadd, 1) := dk_96 (dk_at dksX2_processTableWithSalt_8 17 rfl rfl)
theorem dX2_processTableWithSalt_206 : decode cX2_processTableWithSalt 206 = .ok (.iaload, 1) := dk_46 (dk_at dksX2_processTableWithSalt_8 18 rfl rfl)
theorem dX2_processTableWithSalt_207 : decode cX2_processTableWithSalt 207 = .ok (.ixor, 1) := dk_130 (dk_at dksX2_processTableWithSalt_8 19 rfl rfl)
theorem dX2_processTableWithSalt_208 : decode cX2_processTableWithSalt 208 = .ok (.ixor, 1) := dk_130 (dk_at dksX2_processTableWithSalt_8 20 rfl rfl)
theorem dX2_processTableWithSalt_209 : decode cX2_processTableWithSalt 209 = .ok (.istore 7, 2) := dk_54 7 (dk_at dksX2_processTableWithSalt_8 21 rfl rfl)
theorem dX2_processTableWithSalt_211 : decode cX2_processTableWithSalt 211 = .ok (.iinc 11 2, 3) := dk_132 11 2 (dk_at dksX2_processTableWithSalt_9 0 rfl rfl)
theorem dX2_processTableWithSalt_214 : decode cX2_processTableWithSalt 214 = .ok (.goto (-50), 3) := dk_167 255 206 (dk_at dksX2_processTableWithSalt_9 3 rfl rfl)
theorem dX2_processTableWithSalt_217 : decode cX2_processTableWithSalt 217 = .ok (.iload 8, 2) := dk_21 8 (dk_at dksX2_processTableWithSalt_9 6 rfl rfl)
theorem dX2_processTableWithSalt_219 : decode cX2_processTableWithSalt 219 = .ok (.aload_n 0, 1) := dk_42 (dk_at dksX2_processTableWithSalt_9 8 rfl rfl)
theorem dX2_processTableWithSalt_220 : decode cX2_processTableWithSalt 220 = .ok (.getfield 13, 3) := dk_180 0 13 (dk_at dksX2_processTableWithSalt_9 9 rfl rfl)
theorem dX2_processTableWithSalt_223 : decode cX2_processTableWithSalt 223 = .ok (.bipush 17, 2) := dk_16 17 (dk_at dksX2_processTableWithSalt_9 12 rfl rfl)
theorem dX2_processTableWithSalt_225 : decode cX2_processTableWithSalt 225 = .ok (.iaload, 1) := dk_46 (dk_at dksX2_processTableWithSalt_9 14 rfl rfl)
theorem dX2_processTableWithSalt_226 : decode cX2_processTableWithSalt 226 = .ok (.ixor, 1) := dk_130 (dk_at dksX2_processTableWithSalt_9 15 rfl rfl)
theorem dX2_processTableWithSalt_227 : decode cX2_processTableWithSalt 227 = .ok (.istore 8, 2) := dk_54 8 (dk_at dksX2_processTableWithSalt_9 16 rfl rfl)
theorem dX2_processTableWithSalt_229 : decode cX2_processTableWithSalt 229 = .ok (.aload_n 1, 1) := dk_43 (dk_at dksX2_processTableWithSalt_9 18 rfl rfl)
theorem dX2_processTableWithSalt_230 : decode cX2_processTableWithSalt 230 = .ok (.iload 10, 2) := dk_21 10 (dk_at dksX2_processTableWithSalt_9 19 rfl rfl)
theorem dX2_processTableWithSalt_232 : decode cX2_processTableWithSalt 232 = .ok (.iconst 2, 1) := dk_5 (dk_at dksX2_processTableWithSalt_9 21 rfl rfl)
theorem dX2_processTableWithSalt_233 : decode cX2_processTableWithSalt 233 = .ok (.iadd, 1) := dk_96 (dk_at dksX2_processTableWithSalt_9 22 rfl rfl)
theorem dX2_processTableWithSalt_234 : decode cX2_processTableWithSalt 234 = .ok (.iload 8, 2) := dk_21 8 (dk_at dksX2_processTableWithSalt_10 0 rfl rfl)
theorem dX2_processTableWithSalt_236 : decode cX2_processTableWithSalt 236 = .ok (.iastore, 1) := dk_79 (dk_at dksX2_processTableWithSalt_10 2 rfl rfl)
theorem dX2_processTableWithSalt_237 : decode cX2_processTableWithSalt 237 = .ok (.aload_n 1, 1) := dk_43 (dk_at dksX2_processTableWithSalt_10 3 rfl rfl)
theorem dX2_processTableWithSalt_238 : decode cX2_processTableWithSalt 238 = .ok (.iload 10, 2) := dk_21 10 (dk_at dksX2_processTableWithSalt_10 4 rfl rfl)
theorem dX2_processTableWithSalt_240 : decode cX2_processTableWithSalt 240 = .ok (.iconst 3, 1) := dk_6 (dk_at dksX2_processTableWithSalt_10 6 rfl rfl)
theorem dX2_processTableWithSalt_241 : decode cX2_processTableWithSalt 241 = .ok (.iadd, 1) := dk_96 (dk_at dksX2_processTableWithSalt_10 7 rfl rfl)
theorem dX2_processTableWithSalt_242 : decode cX2_processTableWithSalt 242 = .ok (.iload 7, 2) := dk_21 7 (dk_at dksX2_processTableWithSalt_10 8 rfl rfl)
theorem dX2_processTableWithSalt_244 : decode cX2_processTableWithSalt 244 = .ok (.iastore, 1) := dk_79 (dk_at dksX2_processTableWithSalt_10 10 rfl rfl)
theorem dX2_processTableWithSalt_245 : decode cX2_processTableWithSalt 245 = .ok (.aload_n 2, 1) := dk_44 (dk_at dksX2_processTableWithSalt_10 11 rfl rfl)
theorem dX2_processTableWithSalt_246 : decode cX2_processTableWithSalt 246 = .ok (.iconst 0, 1) := dk_3 (dk_at dksX2_processTableWithSalt_10 12 rfl rfl)
theorem dX2_processTableWithSalt_247 : decode cX2_processTableWithSalt 247 = .ok (.iaload, 1) := dk_46 (dk_at dksX2_processTableWithSalt_10 13 rfl rfl)
theorem dX2_processTableWithSalt_248 : decode cX2_processTableWithSalt 248 = .ok (.iload 8, 2) := dk_21 8 (dk_at dksX2_processTableWithSalt_10 14 rfl rfl)
theorem dX2_processTableWithSalt_250 : decode cX2_processTableWithSalt 250 = .ok (.ixor, 1) := dk_130 (dk_at dksX2_processTableWithSalt_10 16 rfl rfl)
theorem dX2_processTableWithSalt_251 : decode cX2_processTableWithSalt 251 = .ok (.istore 5, 2) := dk_54 5 (dk_at dksX2_processTableWithSalt_10 17 rfl rfl)
theorem dX2_processTableWithSalt_253 : decode cX2_processTableWithSalt 253 = .ok (.aload_n 2, 1) := dk_44 (dk_at dksX2_processTableWithSalt_10 19 rfl rfl)
theorem dX2_processTableWithSalt_254 : decode cX2_processTableWithSalt 254 = .ok (.iconst 1, 1) := dk_4 (dk_at dksX2_processTableWithSalt_10 20 rfl rfl)
theorem dX2_processTableWithSalt_255 : decode cX2_processTableWithSalt 255 = .ok (.iaload, 1) := dk_46 (dk_at dksX2_processTableWithSalt_10 21 rfl rfl)
theorem dX2_processTableWithSalt_256 : decode cX2_processTableWithSalt 256 = .ok (.iload 7, 2) := dk_21 7 (dk_at dksX2_processTableWithSalt_10 22 rfl rfl)
theorem dX2_processTableWithSalt_258 : decode cX2_processTableWithSalt 258 = .ok (.ixor, 1) := dk_130 (dk_at dksX2_processTableWithSalt_11 0 rfl rfl)
theorem dX2_processTableWithSalt_259 : decode cX2_processTableWithSalt 259 = .ok (.istore 6, 2) := dk_54 6 (dk_at dksX2_processTableWithSalt_11 1 rfl rfl)
theorem dX2_processTableWithSalt_261 : decode cX2_processTableWithSalt 261 = .ok (.iinc 10 4, 3) := dk_132 10 4 (dk_at dksX2_processTableWithSalt_11 3 rfl rfl)
theorem dX2_processTableWithSalt_264 : decode cX2_processTableWithSalt 264 = .ok (.goto (-242), 3) := dk_167 255 14 (dk_at dksX2_processTableWithSalt_11 6 rfl rfl)
theorem dX2_processTableWithSalt_267 : decode cX2_processTableWithSalt 267 = .ok (.return_, 1) := dk_177 (dk_at dksX2_processTableWithSalt_11 9 rfl rfl)
abbrev cX2_F : ByteArray := prog_1_method_2_code
def yX2_F : MethodName := ⟨RX2, "F", "(I)I"⟩
def dkwX2_F_2 : List UInt8 := [180, 0, 9, 17, 3, 0, 27, 17, 0, 255, 126, 96, 46, 96, 172]
abbrev dktX2_F_2 : List UInt8 := dkwX2_F_2 ++ []
def dkwX2_F_1 : List UInt8 := [96, 46, 96, 42, 180, 0, 9, 17, 2, 0, 27, 16, 8, 124, 17, 0, 255, 126, 96, 46, 130, 42]
abbrev dktX2_F_1 : List UInt8 := dkwX2_F_1 ++ dktX2_F_2
def dkwX2_F_0 : List UInt8 := [42, 180, 0, 9, 27, 16, 24, 124, 46, 42, 180, 0, 9, 17, 1, 0, 27, 16, 16, 124, 17, 0, 255, 126]
abbrev dktX2_F_0 : List UInt8 := dkwX2_F_0 ++ dktX2_F_1
theorem dksX2_F_0 : cX2_F.data.toList.drop 0 = dktX2_F_0 := by decide +kernel
theorem dksX2_F_1 : cX2_F.data.toList.drop 24 = dktX2_F_1 := dk_seg dksX2_F_0 24 rfl rfl
theorem dksX2_F_2 : cX2_F.data.toList.drop 46 = dktX2_F_2 := dk_seg dksX2_F_1 22 rfl rfl
theorem dX2_F_0 : decode cX2_F 0 = .ok (.aload_n 0, 1) := dk_42 (dk_at dksX2_F_0 0 rfl rfl)
theorem dX2_F_1 : decode cX2_F 1 = .ok (.getfield 9, 3) := dk_180 0 9 (dk_at dksX2_F_0 1 rfl rfl)
theorem dX2_F_4 : decode cX2_F 4 = .ok (.iload_n 1, 1) := dk_27 (dk_at dksX2_F_0 4 rfl rfl)
theorem dX2_F_5 : decode cX2_F 5 = .ok (.bipush 24, 2) := dk_16 24 (dk_at dksX2_F_0 5 rfl rfl)
theorem dX2_F_7 : decode cX2_F 7 = .ok (.iushr, 1) := dk_124 (dk_at dksX2_F_0 7 rfl rfl)
theorem dX2_F_8 : decode cX2_F 8 = .ok (.iaload, 1) := dk_46 (dk_at dksX2_F_0 8 rfl rfl)
theorem dX2_F_9 : decode cX2_F 9 = .ok (.aload_n 0, 1) := dk_42 (dk_at dksX2_F_0 9 rfl rfl)
theorem dX2_F_10 : decode cX2_F 10 = .ok (.getfield 9, 3) := dk_180 0 9 (dk_at dksX2_F_0 10 rfl rfl)
theorem dX2_F_13 : decode cX2_F 13 = .ok (.sipush 256, 3) := dk_17 1 0 (dk_at dksX2_F_0 13 rfl rfl)
theorem dX2_F_16 : decode cX2_F 16 = .ok (.iload_n 1, 1) := dk_27 (dk_at dksX2_F_0 16 rfl rfl)
theorem dX2_F_17 : decode cX2_F 17 = .ok (.bipush 16, 2) := dk_16 16 (dk_at dksX2_F_0 17 rfl rfl)
theorem dX2_F_19 : decode cX2_F 19 = .ok (.iushr, 1) := dk_124 (dk_at dksX2_F_0 19 rfl rfl)
theorem dX2_F_20 : decode cX2_F 20 = .ok (.sipush 255, 3) := dk_17 0 255 (dk_at dksX2_F_0 20 rfl rfl)
theorem dX2_F_23 : decode cX2_F 23 = .ok (.iand, 1) := dk_126 (dk_at dksX2_F_0 23 rfl rfl)
theorem dX2_F_24 : decode cX2_F 24 = .ok (.iadd, 1) := dk_96 (dk_at dksX2_F_1 0 rfl rfl)
theorem dX2_F_25 : decode cX2_F 25 = .ok (.iaload, 1) := dk_46 (dk_at dksX2_F_1 1 rfl rfl)
theorem dX2_F_26 : decode cX2_F 26 = .ok (.iadd, 1) := dk_96 (dk_at dksX2_F_1 2 rfl rfl)
theorem dX2_F_27 : decode cX2_F 27 = .ok (.aload_n 0, 1) := dk_42 (dk_at dksX2_F_1 3 rfl rfl)
theorem dX2_F_28 : decode cX2_F 28 = .ok (.getfield 9, 3) := dk_180 0 9 (dk_at dksX2_F_1 4 rfl rfl)
theorem dX2_F_31 : decode cX2_F 31 = .ok (.sipush 512, 3) := dk_17 2 0 (dk_at dksX2_F_1 7 rfl rfl)
theorem dX2_F_34 : decode cX2_F 34 = .ok (.iload_n 1, 1) := dk_27 (dk_at dksX2_F_1 10 rfl rfl)
theorem dX2_F_35 : decode cX2_F 35 = .ok (.bipush 8, 2) := dk_16 8 (dk_at dksX2_F_1 11 rfl rfl)
theorem dX2_F_37 : decode cX2_F 37 = .ok (.iushr, 1) := dk_124 (dk_at dksX2_F_1 13 rfl rfl)
theorem dX2_F_38 : decode cX2_F 38 = .ok (.sipush 255, 3) := dk_17 0 255 (dk_at dksX2_F_1 14 rfl rfl)
theorem dX2_F_41 : decode cX2_F 41 = .ok (.iand, 1) := dk_126 (dk_at dksX2_F_1 17 rfl rfl)
theorem dX2_F_42 : decode cX2_F 42 = .ok (.iadd, 1) := dk_96 (dk_at dksX2_F_1 18 rfl rfl)
theorem dX2_F_43 : decode cX2_F 43 = .ok (.iaload, 1) := dk_46 (dk_at dksX2_F_1 19 rfl rfl)
theorem dX2_F_44 : decode cX2_F 44 = .ok (.ixor, 1) := dk_130 (dk_at dksX2_F_1 20 rfl rfl)
theorem dX2_F_45 : decode cX2_F 45 = .ok (.aload_n 0, 1) := dk_42 (dk_at dksX2_F_1 21 rfl rfl)
theorem dX2_F_46 : decode cX2_F 46 = .ok (.getfield 9, 3) := dk_180 0 9 (dk_at dksX2_F_2 0 rfl rfl)
theorem dX2_F_49 : decode cX2_F 49 = .ok (.sipush 768, 3) := dk_17 3 0 (dk_at dksX2_F_2 3 rfl rfl)
theorem dX2_F_52 : decode cX2_F 52 = .ok (.iload_n 1, 1) := dk_27 (dk_at dksX2_F_2 6 rfl rfl)
theorem dX2_F_53 : decode cX2_F 53 = .ok (.sipush 255, 3) := dk_17 0 255 (dk_at dksX2_F_2 7 rfl rfl)
theorem dX2_F_56 : decode cX2_F 56 = .ok (.iand, 1) := dk_126 (dk_at dksX2_F_2 10 rfl rfl)
theorem dX2_F_57 : decode cX2_F 57 = .ok (.iadd, 1) := dk_96 (dk_at dksX2_F_2 11 rfl rfl)
theorem dX2_F_58 : decode cX2_F 58 = .ok (.iaload, 1) := dk_46 (dk_at dksX2_F_2 12 rfl rfl)
theorem dX2_F_59 : decode cX2_F 59 = .ok (.iadd, 1) := dk_96 (dk_at dksX2_F_2 13 rfl rfl)
theorem dX2_F_60 : decode cX2_F 60 = .ok (.ireturn, 1) := dk_172 (dk_at dksX2_F_2 14 rfl rfl)
abbrev cX2_processTable : ByteArray := prog_1_method_3_code
def yX2_processTable : MethodName := ⟨RX2, "processTable", "(II[I)V"⟩
def dkwX2_processTable_4 : List UInt8 := [79, 27, 61, 45, 21, 5, 46, 60, 132, 5, 2, 167, 255, 158, 177]
abbrev dktX2_processTable_4 : List UInt8 := dkwX2_processTable_4 ++ []
def dkwX2_processTable_3 : List UInt8 := [167, 255, 212, 28, 42, 180, 0, 13, 16, 17, 46, 130, 61, 45, 21, 5, 28, 79, 45, 21, 5, 4, 96, 27]
abbrev dktX2_processTable_3 : List UInt8 := dkwX2_processTable_3 ++ dktX2_processTable_4
def dkwX2_processTable_2 : List UInt8 := [61, 27, 42, 28, 182, 0, 16, 42, 180, 0, 13, 21, 6, 4, 96, 46, 130, 130, 60, 132, 6, 2]
abbrev dktX2_processTable_2 : List UInt8 := dkwX2_processTable_2 ++ dktX2_processTable_3
def dkwX2_processTable_1 : List UInt8 := [54, 6, 21, 6, 16, 16, 162, 0, 43, 28, 42, 27, 182, 0, 16, 42, 180, 0, 13, 21, 6, 46, 130, 130]
abbrev dktX2_processTable_1 : List UInt8 := dkwX2_processTable_1 ++ dktX2_processTable_2
def dkwX2_processTable_0 : List UInt8 := [45, 190, 54, 4, 3, 54, 5, 21, 5, 21, 4, 162, 0, 97, 27, 42, 180, 0, 13, 3, 46, 130, 60, 4]
abbrev dktX2_processTable_0 : List UInt8 := dkwX2_processTable_0 ++ dktX2_processTable_1
theorem dksX2_processTable_0 : cX2_processTable.data.toList.drop 0 = dktX2_processTable_0 := by decide +kernel
theorem dksX2_processTable_1 : cX2_processTable.data.toList.drop 24 = dktX2_processTable_1 := dk_seg dksX2_processTable_0 24 rfl rfl
theorem dksX2_processTable_2 : cX2_processTable.data.toList.drop 48 = dktX2_processTable_2 := dk_seg dksX2_processTable_1 24 rfl rfl
theorem dksX2_processTable_3 : cX2_processTable.data.toList.drop 70 = dktX2_processTable_3 := dk_seg dksX2_processTable_2 22 rfl rfl
theorem dksX2_processTable_4 : cX2_processTable.data.toList.drop 94 = dktX2_processTable_4 := dk_seg dksX2_processTable_3 24 rfl rfl
theorem dX2_processTable_0 : decode cX2_processTable 0 = .ok (.aload_n 3, 1) := dk_45 (dk_at dksX2_processTable_0 0 rfl rfl)
theorem dX2_processTable_1 : decode cX2_processTable 1 = .ok (.arraylength, 1) := dk_190 (dk_at dksX2_processTable_0 1 rfl rfl)
theorem dX2_processTable_2 : decode cX2_processTable 2 = .ok (.istore 4, 2) := dk_54 4 (dk_at dksX2_processTable_0 2 rfl rfl)
theorem dX2_processTable_4 : decode cX2_processTable 4 = .ok (.iconst 0, 1) := dk_3 (dk_at dksX2_processTable_0 4 rfl rfl)
theorem dX2_processTable_5 : decode cX2_processTable 5 = .ok (.istore 5, 2) := dk_54 5 (dk_at dksX2_processTable_0 5 rfl rfl)
theorem dX2_processTable_7 : decode cX2_processTable 7 = .ok (.iload 5, 2) := dk_21 5 (dk_at dksX2_processTable_0 7 rfl rfl)
theorem dX2_processTable_9 : decode cX2_processTable 9 = .ok (.iload 4, 2) := dk_21 4 (dk_at dksX2_processTable_0 9 rfl rfl)
theorem dX2_processTable_11 : decode cX2_processTable 11 = .ok (.if_icmp .ge 97, 3) := dk_162 0 97 (dk_at dksX2_processTable_0 11 rfl rfl)
theorem dX2_processTable_14 : decode cX2_processTable 14 = .ok (.iload_n 1, 1) := dk_27 (dk_at dksX2_processTable_0 14 rfl rfl)
theorem dX2_processTable_15 : decode cX2_processTable 15 = .ok (.aload_n 0, 1) := dk_42 (dk_at dksX2_processTable_0 15 rfl rfl)
theorem dX2_processTable_16 : decode cX2_processTable 16 = .ok (.getfield 13, 3) := dk_180 0 13 (dk_at dksX2_processTable_0 16 rfl rfl)
theorem dX2_processTable_19 : decode cX2_processTable 19 = .ok (.iconst 0, 1) := dk_3 (dk_at dksX2_processTable_0 19 rfl rfl)
theorem dX2_processTable_20 : decode cX2_processTable 20 = .ok (.iaload, 1) := dk_46 (dk_at dksX2_processTable_0 20 rfl rfl)
theorem dX2_processTable_21 : decode cX2_processTable 21 = .ok (.ixor, 1) := dk_130 (dk_at dksX2_processTable_0 21 rfl rfl)
theorem dX2_processTable_22 : decode cX2_processTable 22 = .ok (.istore_n 1, 1) := dk_60 (dk_at dksX2_processTable_0 22 rfl rfl)
theorem dX2_processTable_23 : decode cX2_processTable 23 = .ok (.iconst 1, 1) := dk_4 (dk_at dksX2_processTable_0 23 rfl rfl)
theorem dX2_processTable_24 : decode cX2_processTable 24 = .ok (.istore 6, 2) := dk_54 6 (dk_at dksX2_processTable_1 0 rfl rfl)
theorem dX2_processTable_26 : decode cX2_processTable 26 = .ok (.iload 6, 2) := dk_21 6 (dk_at dksX2_processTable_1 2 rfl rfl)
theorem dX2_processTable_28 : decode cX2_processTable 28 = .ok (.bipush 16, 2) := dk_16 16 (dk_at dksX2_processTable_1 4 rfl rfl)
theorem dX2_processTable_30 : decode cX2_processTable 30 = .ok (.if_icmp .ge 43, 3) := dk_162 0 43 (dk_at dksX2_processTable_1 6 rfl rfl)
theorem dX2_processTable_33 : decode cX2_processTable 33 = .ok (.iload_n 2, 1) := dk_28 (dk_at dksX2_processTable_1 9 rfl rfl)
theorem dX2_processTable_34 : decode cX2_processTable 34 = .ok (.aload_n 0, 1) := dk_42 (dk_at dksX2_processTable_1 10 rfl rfl)
theorem dX2_processTable_35 : decode cX2_processTable 35 = .ok (.iload_n 1, 1) := dk_27 (dk_at dksX2_processTable_1 11 rfl rfl)
theorem dX2_processTable_36 : decode cX2_processTable 36 = .ok (.invokevirtual 16, 3) := dk_182 0 16 (dk_at dksX2_processTable_1 12 rfl rfl)
theorem dX2_processTable_39 : decode cX2_processTable 39 = .ok (.aload_n 0, 1) := dk_42 (dk_at dksX2_processTable_1 15 rfl rfl)
theorem dX2_processTable_40 : decode cX2_processTable 40 = .ok (.getfield 13, 3) := dk_180 0 13 (dk_at dksX2_processTable_1 16 rfl rfl)
theorem dX2_processTable_43 : decode cX2_processTable 43 = .ok (.iload 6, 2) := dk_21 6 (dk_at dksX2_processTable_1 19 rfl rfl)
theorem dX2_processTable_45 : decode cX2_processTable 45 = .ok (.iaload, 1) := dk_46 (dk_at dksX2_processTable_1 21 rfl rfl)
theorem dX2_processTable_46 : decode cX2_processTable 46 = .ok (.ixor, 1) := dk_130 (dk_at dksX2_processTable_1 22 rfl rfl)
theorem dX2_processTable_47 : decode cX2_processTable 47 = .ok (.ixor, 1) := dk_130 (dk_at dksX2_processTable_1 23 rfl rfl)
theorem dX2_processTable_48 : decode cX2_processTable 48 = .ok (.istore_n 2, 1) := dk_61 (dk_at dksX2_processTable_2 0 rfl rfl)
theorem dX2_processTable_49 : decode cX2_processTable 49 = .ok (.iload_n 1, 1) := dk_27 (dk_at dksX2_processTable_2 1 rfl rfl)
theorem dX2_processTable_50 : decode cX2_processTable 50 = .ok (.aload_n 0, 1) := dk_42 (dk_at dksX2_processTable_2 2 rfl rfl)
theorem dX2_processTable_51 : decode cX2_processTable 51 = .ok (.iload_n 2, 1) := dk_28 (dk_at dksX2_processTable_2 3 rfl rfl)
theorem dX2_processTable_52 : decode cX2_processTable 52 = .ok (.invokevirtual 16, 3) := dk_182 0 16 (dk_at dksX2_processTable_2 4 rfl rfl)
theorem dX2_processTable_55 : decode cX2_processTable 55 = .ok (.aload_n 0, 1) := dk_42 (dk_at dksX2_processTable_2 7 rfl rfl)
theorem dX2_processTable_56 : decode cX2_processTable 56 = .ok (.getfield 13, 3) := dk_180 0 13 (dk_at dksX2_processTable_2 8 rfl rfl)
theorem dX2_processTable_59 : decode cX2_processTable 59 = .ok (.iload 6, 2) := dk_21 6 (dk_at dksX2_processTable_2 11 rfl rfl)
theorem dX2_processTable_61 : decode cX2_processTable 61 = .ok (.iconst 1, 1) := dk_4 (dk_at dksX2_processTable_2 13 rfl rfl)
theorem dX2_processTable_62 : decode cX2_processTable 62 = .ok (.iadd, 1) := dk_96 (dk_at dksX2_processTable_2 14 rfl rfl)
theorem dX2_processTable_63 : decode cX2_processTable 63 = .ok (.iaload, 1) := dk_46 (dk_at dksX2_processTable_2 15 rfl rfl)
theorem dX2_processTable_64 : decode cX2_processTable 64 = .ok (.ixor, 1) := dk_130 (dk_at dksX2_processTable_2 16 rfl rfl)
theorem dX2_processTable_65 : decode cX2_processTable 65 = .ok (.ixor, 1) := dk_130 (dk_at dksX2_processTable_2 17 rfl rfl)
theorem dX2_processTable_66 : decode cX2_processTable 66 = .ok (.istore_n 1, 1) := dk_60 (dk_at dksX2_processTable_2 18 rfl rfl)
theorem dX2_processTable_67 : decode cX2_processTable 67 = .ok (.iinc 6 2, 3) := dk_132 6 2 (dk_at dksX2_processTable_2 19 rfl rfl)
theorem dX2_processTable_70 : decode cX2_processTable 70 = .ok (.goto (-44), 3) := dk_167 255 212 (dk_at dksX2_processTable_3 0 rfl rfl)
theorem dX2_processTable_73 : decode cX2_processTable 73 = .ok (.iload_n 2, 1) := dk_28 (dk_at dksX2_processTable_3 3 rfl rfl)
theorem dX2_processTable_74 : decode cX2_processTable 74 = .ok (.aload_n 0, 1) := dk_42 (dk_at dksX2_processTable_3 4 rfl rfl)
theorem dX2_processTable_75 : decode cX2_processTable 75 = .ok (.getfield 13, 3) := dk_180 0 13 (dk_at dksX2_processTable_3 5 rfl rfl)
theorem dX2_processTable_78 : decode cX2_processTable 78 = .ok (.bipush 17, 2) := dk_16 17 (dk_at dksX2_processTable_3 8 rfl rfl)
theorem dX2_processTable_80 : decode cX2_processTable 80 = .ok (.iaload, 1) := dk_46 (dk_at dksX2_processTable_3 10 rfl rfl)
theorem dX2_processTable_81 : decode cX2_processTable 81 = .ok (.ixor, 1) := dk_130 (dk_at dksX2_processTable_3 11 rfl rfl)
theorem dX2_processTable_82 : decode cX2_processTable 82 = .ok (.istore_n 2, 1) := dk_61 (dk_at dksX2_processTable_3 12 rfl rfl)
theorem dX2_processTable_83 : decode cX2_processTable 83 = .ok (.aload_n 3, 1) := dk_45 (dk_at dksX2_processTable_3 13 rfl rfl)
theorem dX2_processTable_84 : decode cX2_processTable 84 = .ok (.iload 5, 2) := dk_21 5 (dk_at dksX2_processTable_3 14 rfl rfl)
theorem dX2_processTable_86 : decode cX2_processTable 86 = .ok (.iload_n 2, 1) := dk_28 (dk_at dksX2_processTable_3 16 rfl rfl)
theorem dX2_processTable_87 : decode cX2_processTable 87 = .ok (.iastore, 1) := dk_79 (dk_at dksX2_processTable_3 17 rfl rfl)
theorem dX2_processTable_88 : decode cX2_processTable 88 = .ok (.aload_n 3, 1) := dk_45 (dk_at dksX2_processTable_3 18 rfl rfl)
theorem dX2_processTable_89 : decode cX2_processTable 89 = .ok (.iload 5, 2) := dk_21 5 (dk_at dksX2_processTable_3 19 rfl rfl)
theorem dX2_processTable_91 : decode cX2_processTable 91 = .ok (.iconst 1, 1) := dk_4 (dk_at dksX2_processTable_3 21 rfl rfl)
theorem dX2_processTable_92 : decode cX2_processTable 92 = .ok (.iadd, 1) := dk_96 (dk_at dksX2_processTable_3 22 rfl rfl)
theorem dX2_processTable_93 : decode cX2_processTable 93 = .ok (.iload_n 1, 1) := dk_27 (dk_at dksX2_processTable_3 23 rfl rfl)
theorem dX2_processTable_94 : decode cX2_processTable 94 = .ok (.iastore, 1) := dk_79 (dk_at dksX2_processTable_4 0 rfl rfl)
theorem dX2_processTable_95 : decode cX2_processTable 95 = .ok (.iload_n 1, 1) := dk_27 (dk_at dksX2_processTable_4 1 rfl rfl)
theorem dX2_processTable_96 : decode cX2_processTable 96 = .ok (.istore_n 2, 1) := dk_61 (dk_at dksX2_processTable_4 2 rfl rfl)
theorem dX2_processTable_97 : decode cX2_processTable 97 = .ok (.aload_n 3, 1) := dk_45 (dk_at dksX2_processTable_4 3 rfl rfl)
theorem dX2_processTable_98 : decode cX2_processTable 98 = .ok (.iload 5, 2) := dk_21 5 (dk_at dksX2_processTable_4 4 rfl rfl)
theorem dX2_processTable_100 : decode cX2_processTable 100 = .ok (.iaload, 1) := dk_46 (dk_at dksX2_processTable_4 6 rfl rfl)
theorem dX2_processTable_101 : decode cX2_processTable 101 = .ok (.istore_n 1, 1) := dk_60 (dk_at dksX2_processTable_4 7 rfl rfl)
theorem dX2_processTable_102 : decode cX2_processTable 102 = .ok (.iinc 5 2, 3) := dk_132 5 2 (dk_at dksX2_processTable_4 8 rfl rfl)
theorem dX2_processTable_105 : decode cX2_processTable 105 = .ok (.goto (-98), 3) := dk_167 255 158 (dk_at dksX2_processTable_4 11 rfl rfl)
theorem dX2_processTable_108 : decode cX2_processTable 108 = .ok (.return_, 1) := dk_177 (dk_at dksX2_processTable_4 14 rfl rfl)
abbrev cX2_encryptMagicString : ByteArray := prog_1_method_6_code
def yX2_encryptMagicString : MethodName := ⟨RX2, "encryptMagicString", "()[B"⟩
def dkwX2_encryptMagicString_9 : List UInt8 := [3, 184, 0, 50, 44, 176]
abbrev dktX2_encryptMagicString_9 : List UInt8 := dkwX2_encryptMagicString_9 ++ []
def dkwX2_encryptMagicString_8 : List UInt8 := [77, 43, 44, 3, 184, 0, 44, 43, 3, 184, 0, 50, 42, 180, 0, 13, 3, 184, 0, 50, 42, 180, 0, 9]
abbrev dktX2_encryptMagicString_8 : List UInt8 := dkwX2_encryptMagicString_8 ++ dktX2_encryptMagicString_9
def dkwX2_encryptMagicString_7 : List UInt8 := [79, 43, 29, 4, 96, 21, 4, 79, 132, 3, 2, 167, 255, 144, 132, 2, 1, 167, 255, 130, 16, 24, 188, 8]
abbrev dktX2_encryptMagicString_7 : List UInt8 := dkwX2_encryptMagicString_7 ++ dktX2_encryptMagicString_8
def dkwX2_encryptMagicString_6 : List UInt8 := [54, 4, 132, 6, 2, 167, 255, 206, 21, 5, 42, 180, 0, 13, 16, 17, 46, 130, 54, 5, 43, 29, 21, 5]
abbrev dktX2_encryptMagicString_6 : List UInt8 := dkwX2_encryptMagicString_6 ++ dktX2_encryptMagicString_7
def dkwX2_encryptMagicString_5 : List UInt8 := [130, 130, 54, 5, 21, 4, 42, 21, 5, 182, 0, 16, 42, 180, 0, 13, 21, 6, 4, 96, 46, 130, 130]
abbrev dktX2_encryptMagicString_5 : List UInt8 := dkwX2_encryptMagicString_5 ++ dktX2_encryptMagicString_6
def dkwX2_encryptMagicString_4 : List UInt8 := [54, 6, 21, 6, 16, 16, 162, 0, 49, 21, 5, 42, 21, 4, 182, 0, 16, 42, 180, 0, 13, 21, 6, 46]
abbrev dktX2_encryptMagicString_4 : List UInt8 := dkwX2_encryptMagicString_4 ++ dktX2_encryptMagicString_5
def dkwX2_encryptMagicString_3 : List UInt8 := [29, 46, 54, 4, 43, 29, 4, 96, 46, 54, 5, 21, 4, 42, 180, 0, 13, 3, 46, 130, 54, 4, 4]
abbrev dktX2_encryptMagicString_3 : List UInt8 := dkwX2_encryptMagicString_3 ++ dktX2_encryptMagicString_4
def dkwX2_encryptMagicString_2 : List UInt8 := [178, 0, 41, 8, 46, 79, 76, 3, 61, 28, 16, 64, 162, 0, 126, 3, 62, 29, 16, 6, 162, 0, 112, 43]
abbrev dktX2_encryptMagicString_2 : List UInt8 := dkwX2_encryptMagicString_2 ++ dktX2_encryptMagicString_3
def dkwX2_encryptMagicString_1 : List UInt8 := [178, 0, 41, 5, 46, 79, 89, 6, 178, 0, 41, 6, 46, 79, 89, 7, 178, 0, 41, 7, 46, 79, 89, 8]
abbrev dktX2_encryptMagicString_1 : List UInt8 := dkwX2_encryptMagicString_1 ++ dktX2_encryptMagicString_2
def dkwX2_encryptMagicString_0 : List UInt8 := [16, 6, 188, 10, 89, 3, 178, 0, 41, 3, 46, 79, 89, 4, 178, 0, 41, 4, 46, 79, 89, 5]
abbrev dktX2_encryptMagicString_0 : List UInt8 := dkwX2_encryptMagicString_0 ++ dktX2_encryptMagicString_1
theorem dksX2_encryptMagicString_0 : cX2_encryptMagicString.data.toList.drop 0 = dktX2_encryptMagicString_0 := by decide +kernel
theorem dksX2_encryptMagicString_1 : cX2_encryptMagicString.data.toList.drop 22 = dktX2_encryptMagicString_1 := dk_seg dksX2_encryptMagicString_0 22 rfl rfl
theorem dksX2_encryptMagicString_2 : cX2_encryptMagicString.data.toList.drop 46 = dktX2_encryptMagicString_2 := dk_seg dksX2_encryptMagicString_1 24 rfl rfl
theorem dksX2_encryptMagicString_3 : cX2_encryptMagicString.data.toList.drop 70 = dktX2_encryptMagicString_3 := dk_seg dksX2_encryptMagicString_2 24 rfl rfl
theorem dksX2_encryptMagicString_4 : cX2_encryptMagicString.data.toList.drop 93 = dktX2_encryptMagicString_4 := dk_seg dksX2_encryptMagicString_3 23 rfl rfl
theorem dksX2_encryptMagicString_5 : cX2_encryptMagicString.data.toList.drop 117 = dktX2_encryptMagicString_5 := dk_seg dksX2_encryptMagicString_4 24 rfl rfl
theorem dksX2_encryptMagicString_6 : cX2_encryptMagicString.data.toList.drop 140 = dktX2_encryptMagicString_6 := dk_seg dksX2_encryptMagicString_5 23 rfl rfl
theorem dksX2_encryptMagicString_7 : cX2_encryptMagicString.data.toList.drop 164 = dktX2_encryptMagicString_7 := dk_seg dksX2_encryptMagicString_6 24 rfl rfl
theorem dksX2_encryptMagicString_8 : cX2_encryptMagicString.data.toList.drop 188 = dktX2_encryptMagicString_8 := dk_seg dksX2_encryptMagicString_7 24 rfl rfl
theorem dksX2_encryptMagicString_9 : cX2_encryptMagicString.data.toList.drop 212 = dktX2_encryptMagicString_9 := dk_seg dksX2_encryptMagicString_8 24 rfl rfl
theorem dX2_encryptMagicString_0 : decode cX2_encryptMagicString 0 = .ok (.bipush 6, 2) := dk_16 6 (dk_at dksX2_encryptMagicString_0 0 rfl rfl)
theorem dX2_encryptMagicString_2 : decode cX2_encryptMagicString 2 = .ok (.newarray .int, 2) := dk_188_10 (dk_at dksX2_encryptMagicString_0 2 rfl rfl)
theorem dX2_encryptMagicString_4 : decode cX2_encryptMagicString 4 = .ok (.dup, 1) := dk_89 (dk_at dksX2_encryptMagicString_0 4 rfl rfl)
theorem dX2_encryptMagicString_5 : decode cX2_encryptMagicString 5 = .ok (.iconst 0, 1) := dk_3 (dk_at dksX2_encryptMagicString_0 5 rfl rfl)
theorem dX2_encryptMagicString_6 : decode cX2_encryptMagicString 6 = .ok (.getstatic 41, 3) := dk_178 0 41 (dk_at dksX2_encryptMagicString_0 6 rfl rfl)
theorem dX2_encryptMagicString_9 : decode cX2_encryptMagicString 9 = .ok (.iconst 0, 1) := dk_3 (dk_at dksX2_encryptMagicString_0 9 rfl rfl)
theorem dX2_encryptMagicString_10 : decode cX2_encryptMagicString 10 = .ok (.iaload, 1) := dk_46 (dk_at dksX2_encryptMagicString_0 10 rfl rfl)
theorem dX2_encryptMagicString_11 : decode cX2_encryptMagicString 11 = .ok (.iastore, 1) := dk_79 (dk_at dksX2_encryptMagicString_0 11 rfl rfl)
theorem dX2_encryptMagicString_12 : decode cX2_encryptMagicString 12 = .ok (.dup, 1) := dk_89 (dk_at dksX2_encryptMagicString_0 12 rfl rfl)
theorem dX2_encryptMagicString_13 : decode cX2_encryptMagicString 13 = .ok (.iconst 1, 1) := dk_4 (dk_at dksX2_encryptMagicString_0 13 rfl rfl)
theorem dX2_encryptMagicString_14 : decode cX2_encryptMagicString 14 = .ok (.getstatic 41, 3) := dk_178 0 41 (dk_at dksX2_encryptMagicString_0 14 rfl rfl)
theorem dX2_encryptMagicString_17 : decode cX2_encryptMagicString 17 = .ok (.iconst 1, 1) := dk_4 (dk_at dksX2_encryptMagicString_0 17 rfl rfl)
theorem dX2_encryptMagicString_18 : decode cX2_encryptMagicString 18 = .ok (.iaload, 1) := dk_46 (dk_at dksX2_encryptMagicString_0 18 rfl rfl)
theorem dX2_encryptMagicString_19 : decode cX2_encryptMagicString 19 = .ok (.iastore, 1) := dk_79 (dk_at dksX2_encryptMagicString_0 19 rfl rfl)
theorem dX2_encryptMagicString_20 : decode cX2_encryptMagicString 20 = .ok (.dup, 1) := dk_89 (dk_at dksX2_encryptMagicString_0 20 rfl rfl)
theorem dX2_encryptMagicString_21 : decode cX2_encryptMagicString 21 = .ok (.iconst 2, 1) := dk_5 (dk_at dksX2_encryptMagicString_0 21 rfl rfl)
theorem dX2_encryptMagicString_22 : decode cX2_encryptMagicString 22 = .ok (.getstatic 41, 3) := dk_178 0 41 (dk_at dksX2_encryptMagicString_1 0 rfl rfl)
theorem dX2_encryptMagicString_25 : decode cX2_encryptMagicString 25 = .ok (.iconst 2, 1) := dk_5 (dk_at dksX2_encryptMagicString_1 3 rfl rfl)
theorem dX2_encryptMagicString_26 : decode cX2_encryptMagicString 26 = .ok (.iaload, 1) := dk_46 (dk_at dksX2_encryptMagicString_1 4 rfl rfl)
theorem dX2_encryptMagicString_27 : decode cX2_encryptMagicString 27 = .ok (.iastore, 1) := dk_79 (dk_at dksX2_encryptMagicString_1 5 rfl rfl)
theorem dX2_encryptMagicString_28 : decode cX2_encryptMagicString 28 = .ok (.dup, 1) := dk_89 (dk_at dksX2_encryptMagicString_1 6 rfl rfl)
theorem dX2_encryptMagicString_29 : decode cX2_encryptMagicString 29 = .ok (.iconst 3, 1) := dk_6 (dk_at dksX2_encryptMagicString_1 7 rfl rfl)
theorem dX2_encryptMagicString_30 : decode cX2_encryptMagicString 30 = .ok (.getstatic 41, 3) := dk_178 0 41 (dk_at dksX2_encryptMagicString_1 8 rfl rfl)
theorem dX2_encryptMagicString_33 : decode cX2_encryptMagicString 33 = .ok (.iconst 3, 1) := dk_6 (dk_at dksX2_encryptMagicString_1 11 rfl rfl)
theorem dX2_encryptMagicString_34 : decode cX2_encryptMagicString 34 = .ok (.iaload, 1) := dk_46 (dk_at dksX2_encryptMagicString_1 12 rfl rfl)
theorem dX2_encryptMagicString_35 : decode cX2_encryptMagicString 35 = .ok (.iastore, 1) := dk_79 (dk_at dksX2_encryptMagicString_1 13 rfl rfl)
theorem dX2_encryptMagicString_36 : decode cX2_encryptMagicString 36 = .ok (.dup, 1) := dk_89 (dk_at dksX2_encryptMagicString_1 14 rfl rfl)
theorem dX2_encryptMagicString_37 : decode cX2_encryptMagicString 37 = .ok (.iconst 4, 1) := dk_7 (dk_at dksX2_encryptMagicString_1 15 rfl rfl)
theorem dX2_encryptMagicString_38 : decode cX2_encryptMagicString 38 = .ok (.getstatic 41, 3) := dk_178 0 41 (dk_at dksX2_encryptMagicString_1 16 rfl rfl)
theorem dX2_encryptMagicString_41 : decode cX2_encryptMagicString 41 = .ok (.iconst 4, 1) := dk_7 (dk_at dksX2_encryptMagicString_1 19 rfl rfl)
theorem dX2_encryptMagicString_42 : decode cX2_encryptMagicString 42 = .ok (.iaload, 1) := dk_46 (dk_at dksX2_encryptMagicString_1 20 rfl rfl)
theorem dX2_encryptMagicString_43 : decode cX2_encryptMagicString 43 = .ok (.iastore, 1) := dk_79 (dk_at dksX2_encryptMagicString_1 21 rfl rfl)
theorem dX2_encryptMagicString_44 : decode cX2_encryptMagicString 44 = .ok (.dup, 1) := dk_89 (dk_at dksX2_encryptMagicString_1 22 rfl rfl)
theorem dX2_encryptMagicString_45 : decode cX2_encryptMagicString 45 = .ok (.iconst 5, 1) := dk_8 (dk_at dksX2_encryptMagicString_1 23 rfl rfl)
theorem dX2_encryptMagicString_46 : decode cX2_encryptMagicString 46 = .ok (.getstatic 41, 3) := dk_178 0 41 (dk_at dksX2_encryptMagicString_2 0 rfl rfl)
theorem dX2_encryptMagicString_49 : decode cX2_encryptMagicString 49 = .ok (.iconst 5, 1) := dk_8 (dk_at dksX2_encryptMagicString_2 3 rfl rfl)
theorem dX2_encryptMagicString_50 : decode cX2_encryptMagicString 50 = .ok (.iaload, 1) := dk_46 (dk_at dksX2_encryptMagicString_2 4 rfl rfl)
theorem dX2_encryptMagicString_51 : decode cX2_encryptMagicString 51 = .ok (.iastore, 1) := dk_79 (dk_at dksX2_encryptMagicString_2 5 rfl rfl)
theorem dX2_encryptMagicString_52 : decode cX2_encryptMagicString 52 = .ok (.astore_n 1, 1) := dk_76 (dk_at dksX2_encryptMagicString_2 6 rfl rfl)
theorem dX2_encryptMagicString_53 : decode cX2_encryptMagicString 53 = .ok (.iconst 0, 1) := dk_3 (dk_at dksX2_encryptMagicString_2 7 rfl rfl)
theorem dX2_encryptMagicString_54 : decode cX2_encryptMagicString 54 = .ok (.istore_n 2, 1) := dk_61 (dk_at dksX2_encryptMagicString_2 8 rfl rfl)
theorem dX2_encryptMagicString_55 : decode cX2_encryptMagicString 55 = .ok (.iload_n 2, 1) := dk_28 (dk_at dksX2_encryptMagicString_2 9 rfl rfl)
theorem dX2_encryptMagicString_56 : decode cX2_encryptMagicString 56 = .ok (.bipush 64, 2) := dk_16 64 (dk_at dksX2_encryptMagicString_2 10 rfl rfl)
theorem dX2_encryptMagicString_58 : decode cX2_encryptMagicString 58 = .ok (.if_icmp .ge 126, 3) := dk_162 0 126 (dk_at dksX2_encryptMagicString_2 12 rfl rfl)
theorem dX2_encryptMagicString_61 : decode cX2_encryptMagicString 61 = .ok (.iconst 0, 1) := dk_3 (dk_at dksX2_encryptMagicString_2 15 rfl rfl)
theorem dX2_encryptMagicString_62 : decode cX2_encryptMagicString 62 = .ok (.istore_n 3, 1) := dk_62 (dk_at dksX2_encryptMagicString_2 16 rfl rfl)
theorem dX2_encryptMagicString_63 : decode cX2_encryptMagicString 63 = .ok (.iload_n 3, 1) := dk_29 (dk_at dksX2_encryptMagicString_2 17 rfl rfl)
theorem dX2_encryptMagicString_64 : decode cX2_encryptMagicString 64 = .ok (.bipush 6, 2) := dk_16 6 (dk_at dksX2_encryptMagicString_2 18 rfl rfl)
theorem dX2_encryptMagicString_66 : decode cX2_encryptMagicString 66 = .ok (.if_icmp .ge 112, 3) := dk_162 0 112 (dk_at dksX2_encryptMagicString_2 20 rfl rfl)
theorem dX2_encryptMagicString_69 : decode cX2_encryptMagicString 69 = .ok (.aload_n 1, 1) := dk_43 (dk_at dksX2_encryptMagicString_2 23 rfl rfl)
theorem dX2_encryptMagicString_70 : decode cX2_encryptMagicString 70 = .ok (.iload_n 3, 1) := dk_29 (dk_at dksX2_encryptMagicString_3 0 rfl rfl)
theorem dX2_encryptMagicString_71 : decode cX2_encryptMagicString 71 = .ok (.iaload, 1) := dk_46 (dk_at dksX2_encryptMagicString_3 1 rfl rfl)
theorem dX2_encryptMagicString_72 : decode cX2_encryptMagicString 72 = .ok (.istore 4, 2) := dk_54 4 (dk_at dksX2_encryptMagicString_3 2 rfl rfl)
theorem dX2_encryptMagicString_74 : decode cX2_encryptMagicString 74 = .ok (.aload_n 1, 1) := dk_43 (dk_at dksX2_encryptMagicString_3 4 rfl rfl)
theorem dX2_encryptMagicString_75 : decode cX2_encryptMagicString 75 = .ok (.iload_n 3, 1) := dk_29 (dk_at dksX2_encryptMagicString_3 5 rfl rfl)
theorem dX2_encryptMagicString_76 : decode cX2_encryptMagicString 76 = .ok (.iconst 1, 1) := dk_4 (dk_at dksX2_encryptMagicString_3 6 rfl rfl)
theorem dX2_encryptMagicString_77 : decode cX2_encryptMagicString 77 = .ok (.iadd, 1) := dk_96 (dk_at dksX2_encryptMagicString_3 7 rfl rfl)
theorem dX2_encryptMagicString_78 : decode cX2_encryptMagicString 78 = .ok (.iaload, 1) := dk_46 (dk_at dksX2_encryptMagicString_3 8 rfl rfl)
theorem dX2_encryptMagicString_79 : decode cX2_encryptMagicString 79 = .ok (.istore 5, 2) := dk_54 5 (dk_at dksX2_encryptMagicString_3 9 rfl rfl)
theorem dX2_encryptMagicString_81 : decode cX2_encryptMagicString 81 = .ok (.iload 4, 2) := dk_21 4 (dk_at dksX2_encryptMagicString_3 11 rfl rfl)
theorem dX2_encryptMagicString_83 : decode cX2_encryptMagicString 83 = .ok (.aload_n 0, 1) := dk_42 (dk_at dksX2_encryptMagicString_3 13 rfl rfl)
theorem dX2_encryptMagicString_84 : decode cX2_encryptMagicString 84 = .ok (.getfield 13, 3) := dk_180 0 13 (dk_at dksX2_encryptMagicString_3 14 rfl rfl)
theorem dX2_encryptMagicString_87 : decode cX2_encryptMagicString 87 = .ok (.iconst 0, 1) := dk_3 (dk_at dksX2_encryptMagicString_3 17 rfl rfl)
theorem dX2_encryptMagicString_88 : decode cX2_encryptMagicString 88 = .ok (.iaload, 1) := dk_46 (dk_at dksX2_encryptMagicString_3 18 rfl rfl)
theorem dX2_encryptMagicString_89 : decode cX2_encryptMagicString 89 = .ok (.ixor, 1) := dk_130 (dk_at dksX2_encryptMagicString_3 19 rfl rfl)
theorem dX2_encryptMagicString_90 : decode cX2_encryptMagicString 90 = .ok (.istore 4, 2) := dk_54 4 (dk_at dksX2_encryptMagicString_3 20 rfl rfl)
theorem dX2_encryptMagicString_92 : decode cX2_encryptMagicString 92 = .ok (.iconst 1, 1) := dk_4 (dk_at dksX2_encryptMagicString_3 22 rfl rfl)
theorem dX2_encryptMagicString_93 : decode cX2_encryptMagicString 93 = .ok (.istore 6, 2) := dk_54 6 (dk_at dksX2_encryptMagicString_4 0 rfl rfl)
theorem dX2_encryptMagicString_95 : decode cX2_encryptMagicString 95 = .ok (.iload 6, 2) := dk_21 6 (dk_at dksX2_encryptMagicString_4 2 rfl rfl)
theorem dX2_encryptMagicString_97 : decode cX2_encryptMagicString 97 = .ok (.bipush 16, 2) := dk_16 16 (dk_at dksX2_encryptMagicString_4 4 rfl rfl)
theorem dX2_encryptMagicString_99 : decode cX2_encryptMagicString 99 = .ok (.if_icmp .ge 49, 3) := dk_162 0 49 (dk_at dksX2_encryptMagicString_4 6 rfl rfl)
theorem dX2_encryptMagicString_102 : decode cX2_encryptMagicString 102 = .ok (.iload 5, 2) := dk_21 5 (dk_at dksX2_encryptMagicString_4 9 rfl rfl)
theorem dX2_encryptMagicString_104 : decode cX2_encryptMagicString 104 = .ok (.aload_n 0, 1) := dk_42 (dk_at dksX2_encryptMagicString_4 11 rfl rfl)
theorem dX2_encryptMagicString_105 : decode cX2_encryptMagicString 105 = .ok (.iload 4, 2) := dk_21 4 (dk_at dksX2_encryptMagicString_4 12 rfl rfl)
theorem dX2_encryptMagicString_107 : decode cX2_encryptMagicString 107 = .ok (.invokevirtual 16, 3) := dk_182 0 16 (dk_at dksX2_encryptMagicString_4 14 rfl rfl)
theorem dX2_encryptMagicString_110 : decode cX2_encryptMagicString 110 = .ok (.aload_n 0, 1) := dk_42 (dk_at dksX2_encryptMagicString_4 17 rfl rfl)
theorem dX2_encryptMagicString_111 : decode cX2_encryptMagicString 111 = .ok (.getfield 13, 3) := dk_180 0 13 (dk_at dksX2_encryptMagicString_4 18 rfl rfl)
theorem dX2_encryptMagicString_114 : decode cX2_encryptMagicString 114 = .ok (.iload 6, 2) := dk_21 6 (dk_at dksX2_encryptMagicString_4 21 rfl rfl)
theorem dX2_encryptMagicString_116 : decode cX2_encryptMagicString 116 = .ok (.iaload, 1) := dk_46 (dk_at dksX2_encryptMagicString_4 23 rfl rfl)
theorem dX2_encryptMagicString_117 : decode cX2_encryptMagicString 117 = .ok (.ixor, 1) := dk_130 (dk_at dksX2_encryptMagicString_5 0 rfl rfl)
theorem dX2_encryptMagicString_118 : decode cX2_encryptMagicString 118 = .ok (.ixor, 1) := dk_130 (dk_at dksX2_encryptMagicString_5 1 rfl rfl)
theorem dX2_encryptMagicString_119 : decode cX2_encryptMagicString 119 = .ok (.istore 5, 2) := dk_54 5 (dk_at dksX2_encryptMagicString_5 2 rfl rfl)
theorem dX2_encryptMagicString_121 : decode cX2_encryptMagicString 121 = .ok (.iload 4, 2) := dk_21 4 (dk_at dksX2_encryptMagicString_5 4 rfl rfl)
theorem dX2_encryptMagicString_123 : decode cX2_encryptMagicString 123 = .ok (.aload_n 0, 1) := dk_42 (dk_at dksX2_encryptMagicString_5 6 rfl rfl)
theorem dX2_encryptMagicString_124 : decode cX2_encryptMagicString 124 = .ok (.iload 5, 2) := dk_21 5 (dk_at dksX2_encryptMagicString_5 7 rfl rfl)
theorem dX2_encryptMagicString_126 : decode cX2_encryptMagicString 126 = .ok (.invokevirtual 16, 3) := dk_182 0 16 (dk_at dksX2_encryptMagicString_5 9 rfl rfl)
theorem dX2_encryptMagicString_129 : decode cX2_encryptMagicString 129 = .ok (.aload_n 0, 1) := dk_42 (dk_at dksX2_encryptMagicString_5 12 rfl rfl)
theorem dX2_encryptMagicString_130 : decode cX2_encryptMagicString 130 = .ok (.getfield 13, 3) := dk_180 0 13 (dk_at dksX2_encryptMagicString_5 13 rfl rfl)
theorem dX2_encryptMagicString_133 : decode cX2_encryptMagicString 133 = .ok (.iload 6, 2) := dk_21 6 (dk_at dksX2_encryptMagicString_5 16 rfl rfl)
theorem dX2_encryptMagicString_135 : decode cX2_encryptMagicString 135 = .ok (.iconst 1, 1) := dk_4 (dk_at dksX2_encryptMagicString_5 18 rfl rfl)
theorem dX2_encryptMagicString_136 : decode cX2_encryptMagicString 136 = .ok (.iadd, 1) := dk_96 (dk_at dksX2_encryptMagicString_5 19 rfl rfl)
theorem dX2_encryptMagicString_137 : decode cX2_encryptMagicString 137 = .ok (.iaload, 1) := dk_46 (dk_at dksX2_encryptMagicString_5 20 rfl rfl)
theorem dX2_encryptMagicString_138 : decode cX2_encryptMagicString 138 = .ok (.ixor, 1) := dk_130 (dk_at dksX2_encryptMagicString_5 21 rfl rfl)
theorem dX2_encryptMagicString_139 : decode cX2_encryptMagicString 139 = .ok (.ixor, 1) := dk_130 (dk_at dksX2_encryptMagicString_5 22 rfl rfl)
theorem dX2_encryptMagicString_140 : decode cX2_encryptMagicString 140 = .ok (.istore 4, 2) := dk_54 4 (dk_at dksX2_encryptMagicString_6 0 rfl rfl)
theorem dX2_encryptMagicString_142 : decode cX2_encryptMagicString 142 = .ok (.iinc 6 2, 3) := dk_132 6 2 (dk_at dksX2_encryptMagicString_6 2 rfl rfl)
theorem dX2_encryptMagicString_145 : decode cX2_encryptMagicString 145 = .ok (.goto (-50), 3) := dk_167 255 206 (dk_at dksX2_encryptMagicString_6 5 rfl rfl)
theorem dX2_encryptMagicString_148 : decode cX2_encryptMagicString 148 = .ok (.iload 5, 2) := dk_21 5 (dk_at dksX2_encryptMagicString_6 8 rfl rfl)
theorem dX2_encryptMagicString_150 : decode cX2_encryptMagicString 150 = .ok (.aload_n 0, 1) := dk_42 (dk_at dksX2_encryptMagicString_6 10 rfl rfl)
theorem dX2_encryptMagicString_151 : decode cX2_encryptMagicString 151 = .ok (.getfield 13, 3) := dk_180 0 13 (dk_at dksX2_encryptMagicString_6 11 rfl rfl)
theorem dX2_encryptMagicString_154 : decode cX2_encryptMagicString 154 = .ok (.bipush 17, 2) := dk_16 17 (dk_at dksX2_encryptMagicString_6 14 rfl rfl)
theorem dX2_encryptMagicString_156 : decode cX2_encryptMagicString 156 = .ok (.iaload, 1) := dk_46 (dk_at dksX2_encryptMagicString_6 16 rfl rfl)
theorem dX2_encryptMagicString_157 : decode cX2_encryptMagicString 157 = .ok (.ixor, 1) := dk_130 (dk_at dksX2_encryptMagicString_6 17 rfl rfl)
theorem dX2_encryptMagicString_158 : decode cX2_encryptMagicString 158 = .ok (.istore 5, 2) := dk_54 5 (dk_at dksX2_encryptMagicString_6 18 rfl rfl)
theorem dX2_encryptMagicString_160 : decode cX2_encryptMagicString 160 = .ok (.aload_n 1, 1) := dk_43 (dk_at dksX2_encryptMagicString_6 20 rfl rfl)
theorem dX2_encryptMagicString_161 : decode cX2_encryptMagicString 161 = .ok (.iload_n 3, 1) := dk_29 (dk_at dksX2_encryptMagicString_6 21 rfl rfl)
theorem dX2_encryptMagicString_162 : decode cX2_encryptMagicString 162 = .ok (.iload 5, 2) := dk_21 5 (dk_at dksX2_encryptMagicString_6 22 rfl rfl)
theorem dX2_encryptMagicString_164 : decode cX2_encryptMagicString 164 = .ok (.iastore, 1) := dk_79 (dk_at dksX2_encryptMagicString_7 0 rfl rfl)
theorem dX2_encryptMagicString_165 : decode cX2_encryptMagicString 165 = .ok (.aload_n 1, 1) := dk_43 (dk_at dksX2_encryptMagicString_7 1 rfl rfl)
theorem dX2_encryptMagicString_166 : decode cX2_encryptMagicString 166 = .ok (.iload_n 3, 1) := dk_29 (dk_at dksX2_encryptMagicString_7 2 rfl rfl)
theorem dX2_encryptMagicString_167 : decode cX2_encryptMagicString 167 = .ok (.iconst 1, 1) := dk_4 (dk_at dksX2_encryptMagicString_7 3 rfl rfl)
theorem dX2_encryptMagicString_168 : decode cX2_encryptMagicString 168 = .ok (.iadd, 1) := dk_96 (dk_at dksX2_encryptMagicString_7 4 rfl rfl)
theorem dX2_encryptMagicString_169 : decode cX2_encryptMagicString 169 = .ok (.iload 4, 2) := dk_21 4 (dk_at dksX2_encryptMagicString_7 5 rfl rfl)
theorem dX2_encryptMagicString_171 : decode cX2_encryptMagicString 171 = .ok (.iastore, 1) := dk_79 (dk_at dksX2_encryptMagicString_7 7 rfl rfl)
theorem dX2_encryptMagicString_172 : decode cX2_encryptMagicString 172 = .ok (.iinc 3 2, 3) := dk_132 3 2 (dk_at dksX2_encryptMagicString_7 8 rfl rfl)
theorem dX2_encryptMagicString_175 : decode cX2_encryptMagicString 175 = .ok (.goto (-112), 3) := dk_167 255 144 (dk_at dksX2_encryptMagicString_7 11 rfl rfl)
theorem dX2_encryptMagicString_178 : decode cX2_encryptMagicString 178 = .ok (.iinc 2 1, 3) := dk_132 2 1 (dk_at dksX2_encryptMagicString_7 14 rfl rfl)
theorem dX2_encryptMagicString_181 : decode cX2_encryptMagicString 181 = .ok (.goto (-126), 3) := dk_167 255 130 (dk_at dksX2_encryptMagicString_7 17 rfl rfl)
theorem dX2_encryptMagicString_184 : decode cX2_encryptMagicString 184 = .ok (.bipush 24, 2) := dk_16 24 (dk_at dksX2_encryptMagicString_7 20 rfl rfl)
theorem dX2_encryptMagicString_186 : decode cX2_encryptMagicString 186 = .ok (.newarray .byte, 2) := dk_188_8 (dk_at dksX2_encryptMagicString_7 22 rfl rfl)
theorem dX2_encryptMagicString_188 : decode cX2_encryptMagicString 188 = .ok (.astore_n 2, 1) := dk_77 (dk_at dksX2_encryptMagicString_8 0 rfl rfl)
theorem dX2_encryptMagicString_189 : decode cX2_encryptMagicString 189 = .ok (.aload_n 1, 1) := dk_43 (dk_at dksX2_encryptMagicString_8 1 rfl rfl)
theorem dX2_encryptMagicString_190 : decode cX2_encryptMagicString 190 = .ok (.aload_n 2, 1) := dk_44 (dk_at dksX2_encryptMagicString_8 2 rfl rfl)
theorem dX2_encryptMagicString_191 : decode cX2_encryptMagicString 191 = .ok (.iconst 0, 1) := dk_3 (dk_at dksX2_encryptMagicString_8 3 rfl rfl)
theorem dX2_encryptMagicString_192 : decode cX2_encryptMagicString 192 = .ok (.invokestatic 44, 3) := dk_184 0 44 (dk_at dksX2_encryptMagicString_8 4 rfl rfl)
theorem dX2_encryptMagicString_195 : decode cX2_encryptMagicString 195 = .ok (.aload_n 1, 1) := dk_43 (dk_at dksX2_encryptMagicString_8 7 rfl rfl)
theorem dX2_encryptMagicString_196 : decode cX2_encryptMagicString 196 = .ok (.iconst 0, 1) := dk_3 (dk_at dksX2_encryptMagicString_8 8 rfl rfl)
theorem dX2_encryptMagicString_197 : decode cX2_encryptMagicString 197 = .ok (.invokestatic 50, 3) := dk_184 0 50 (dk_at dksX2_encryptMagicString_8 9 rfl rfl)
theorem dX2_encryptMagicString_200 : decode cX2_encryptMagicString 200 = .ok (.aload_n 0, 1) := dk_42 (dk_at dksX2_encryptMagicString_8 12 rfl rfl)
theorem dX2_encryptMagicString_201 : decode cX2_encryptMagicString 201 = .ok (.getfield 13, 3) := dk_180 0 13 (dk_at dksX2_encryptMagicString_8 13 rfl rfl)
theorem dX2_encryptMagicString_204 : decode cX2_encryptMagicString 204 = .ok (.iconst 0, 1) := dk_3 (dk_at dksX2_encryptMagicString_8 16 rfl rfl)
theorem dX2_encryptMagicString_205 : decode cX2_encryptMagicString 205 = .ok (.invokestatic 50, 3) := dk_184 0 50 (dk_at dksX2_encryptMagicString_8 17 rfl rfl)
theorem dX2_encryptMagicString_208 : decode cX2_encryptMagicString 208 = .ok (.aload_n 0, 1) := dk_42 (dk_at dksX2_encryptMagicString_8 20 rfl rfl)
theorem dX2_encryptMagicString_209 : decode cX2_encryptMagicString 209 = .ok (.getfield 9, 3) := dk_180 0 9 (dk_at dksX2_encryptMagicString_8 21 rfl rfl)
theorem dX2_encryptMagicString_212 : decode cX2_encryptMagicString 212 = .ok (.iconst 0, 1) := dk_3 (dk_at dksX2_encryptMagicString_9 0 rfl rfl)
theorem dX2_encryptMagicString_213 : decode cX2_encryptMagicString 213 = .ok (.invokestatic 50, 3) := dk_184 0 50 (dk_at dksX2_encryptMagicString_9 1 rfl rfl)
theorem dX2_encryptMagicString_216 : decode cX2_encryptMagicString 216 = .ok (.aload_n 2, 1) := dk_44 (dk_at dksX2_encryptMagicString_9 4 rfl rfl)
theorem dX2_encryptMagicString_217 : decode cX2_encryptMagicString 217 = .ok (.areturn, 1) := dk_176 (dk_at dksX2_encryptMagicString_9 5 rfl rfl)
theorem q13 : (Jvm.Cond.initialized "BCrypt") ∈ lw_all := lw_g (lw_at lw_m1 3 rfl) rfl
theorem q67 : (Jvm.Cond.static ({ cls := "BCrypt", name := "generate", desc := "([B[BIZ)[B" } : Jvm.MethodName)) ∈ lw_all := lw_g (lw_at lw_m1 57 rfl) rfl
theorem q68 : (Jvm.Cond.code ({ cls := "BCrypt", name := "generate", desc := "([B[BIZ)[B" } : Jvm.MethodName) prog_1_method_9_code (5 : Nat) (Option.some (Jvm.ClassFile.FieldType.array Jvm.ClassFile.FieldType.byte))) ∈ lw_all := lw_g (lw_at lw_m1 58 rfl) rfl
theorem q69 : (Jvm.Cond.classLink "BCrypt" (63 : Nat) "java/lang/IllegalArgumentException") ∈ lw_all := lw_g (lw_at lw_m1 59 rfl) rfl
theorem q109 : (Jvm.Cond.stringRef "BCrypt" (91 : Nat) "pwInput and salt are required") ∈ lw_tbl := lw_at lw_m1 99 rfl
theorem q110 : (Jvm.Cond.methodLink "BCrypt" (67 : Nat) ({ cls := "java/lang/IllegalArgumentException", name := "<init>", desc := "(Ljava/lang/String;)V" } : Jvm.MethodName)) ∈ lw_all := lw_g (lw_at lw_m1 100 rfl) rfl
theorem q135 : (Jvm.Cond.stringRef "BCrypt" (93 : Nat) "BCrypt salt must be 128 bits") ∈ lw_tbl := lw_at lw_m1 125 rfl
theorem q136 : (Jvm.Cond.stringRef "BCrypt" (95 : Nat) "BCrypt password must be <= 72 bytes") ∈ lw_tbl := lw_at lw_m1 126 rfl
theorem q137 : (Jvm.Cond.stringRef "BCrypt" (97 : Nat) "BCrypt cost must be from 4..31") ∈ lw_tbl := lw_at lw_m1 127 rfl
theorem q138 : (Jvm.Cond.methodLink "BCrypt" (99 : Nat) ({ cls := "OwnArrays", name := "append", desc := "([BB)[B" } : Jvm.MethodName)) ∈ lw_all := lw_g (lw_at lw_m1 128 rfl) rfl
theorem q144 : (Jvm.Cond.classLink "BCrypt" (1 : Nat) "BCrypt") ∈ lw_all := lw_g (lw_at lw_m1 134 rfl) rfl
theorem q145 : (Jvm.Cond.instantiable "BCrypt" (2 : Nat)) ∈ lw_all := lw_g (lw_at lw_m1 135 rfl) rfl
theorem q146 : (Jvm.Cond.methodLink "BCrypt" (103 : Nat) ({ cls := "BCrypt", name := "<init>", desc := "()V" } : Jvm.MethodName)) ∈ lw_all := lw_g (lw_at lw_m1 136 rfl) rfl
theorem q147 : (Jvm.Cond.instanceMethod ({ cls := "BCrypt", name := "<init>", desc := "()V" } : Jvm.MethodName)) ∈ lw_all := lw_g (lw_at lw_m1 137 rfl) rfl
theorem q148 : (Jvm.Cond.code ({ cls := "BCrypt", name := "<init>", desc := "()V" } : Jvm.MethodName) prog_1_method_1_code (1 : Nat) (Option.none : Option Jvm.ClassFile.FieldType)) ∈ lw_all := lw_g (lw_at lw_m1 138 rfl) rfl
theorem q149 : (Jvm.Cond.methodLink "BCrypt" (3 : Nat) ({ cls := "java/lang/Object", name := "<init>", desc := "()V" } : Jvm.MethodName)) ∈ lw_all := lw_g (lw_at lw_m1 139 rfl) rfl
theorem q150 : (Jvm.Cond.fieldLink "BCrypt" (9 : Nat) "BCrypt" "S" "[I") ∈ lw_all := lw_g (lw_at lw_m1 140 rfl) rfl
theorem q151 : (Jvm.Cond.fieldLink "BCrypt" (13 : Nat) "BCrypt" "P" "[I") ∈ lw_all := lw_g (lw_at lw_m1 141 rfl) rfl
theorem q152 : (Jvm.Cond.laysFinal "BCrypt" "BCrypt" "S" "[I") ∈ lw_all := lw_g (lw_at lw_m1 142 rfl) rfl
theorem q153 : (Jvm.Cond.soleField "BCrypt" "S") ∈ lw_all := lw_g (lw_at lw_m1 143 rfl) rfl
theorem q154 : (Jvm.Cond.laysFinal "BCrypt" "BCrypt" "P" "[I") ∈ lw_all := lw_g (lw_at lw_m1 144 rfl) rfl
theorem q155 : (Jvm.Cond.soleField "BCrypt" "P") ∈ lw_all := lw_g (lw_at lw_m1 145 rfl) rfl
theorem q156 : (Jvm.Cond.superclass "BCrypt" "java/lang/Object") ∈ lw_all := lw_g (lw_at lw_m1 146 rfl) rfl
theorem q158 : (Jvm.Cond.methodLink "BCrypt" (104 : Nat) ({ cls := "BCrypt", name := "deriveRawKey", desc := "(I[B[B)[B" } : Jvm.MethodName)) ∈ lw_all := lw_g (lw_at lw_m1 148 rfl) rfl
theorem q159 : (Jvm.Cond.privateMethod ({ cls := "BCrypt", name := "deriveRawKey", desc := "(I[B[B)[B" } : Jvm.MethodName)) ∈ lw_tbl := lw_at lw_m1 149 rfl
theorem q160 : (Jvm.Cond.instanceMethod ({ cls := "BCrypt", name := "deriveRawKey", desc := "(I[B[B)[B" } : Jvm.MethodName)) ∈ lw_all := lw_g (lw_at lw_m1 150 rfl) rfl
theorem q161 : (Jvm.Cond.code ({ cls := "BCrypt", name := "deriveRawKey", desc := "(I[B[B)[B" } : Jvm.MethodName) prog_1_method_8_code (8 : Nat) (Option.some (Jvm.ClassFile.FieldType.array Jvm.ClassFile.FieldType.byte))) ∈ lw_all := lw_g (lw_at lw_m1 151 rfl) rfl
theorem q162 : (Jvm.Cond.classLink "BCrypt" (56 : Nat) "DataLengthException") ∈ lw_all := lw_g (lw_at lw_m1 152 rfl) rfl
theorem q172 : (Jvm.Cond.stringRef "BCrypt" (58 : Nat) "Invalid salt size: 16 bytes expected.") ∈ lw_tbl := lw_at lw_m1 162 rfl
theorem q173 : (Jvm.Cond.methodLink "BCrypt" (60 : Nat) ({ cls := "DataLengthException", name := "<init>", desc := "(Ljava/lang/String;)V" } : Jvm.MethodName)) ∈ lw_all := lw_g (lw_at lw_m1 163 rfl) rfl
theorem q182 : (Jvm.Cond.stringRef "BCrypt" (65 : Nat) "Illegal cost factor: 4 - 31 expected.") ∈ lw_tbl := lw_at lw_m1 172 rfl
theorem q183 : (Jvm.Cond.methodLink "BCrypt" (68 : Nat) ({ cls := "BCrypt", name := "initState", desc := "()V" } : Jvm.MethodName)) ∈ lw_all := lw_g (lw_at lw_m1 173 rfl) rfl
theorem q184 : (Jvm.Cond.privateMethod ({ cls := "BCrypt", name := "initState", desc := "()V" } : Jvm.MethodName)) ∈ lw_tbl := lw_at lw_m1 174 rfl
theorem q185 : (Jvm.Cond.instanceMethod ({ cls := "BCrypt", name := "initState", desc := "()V" } : Jvm.MethodName)) ∈ lw_all := lw_g (lw_at lw_m1 175 rfl) rfl
theorem q186 : (Jvm.Cond.code ({ cls := "BCrypt", name := "initState", desc := "()V" } : Jvm.MethodName) prog_1_method_4_code (1 : Nat) (Option.none : Option Jvm.ClassFile.FieldType)) ∈ lw_all := lw_g (lw_at lw_m1 176 rfl) rfl
theorem q187 : (Jvm.Cond.fieldLink "BCrypt" (20 : Nat) "BCrypt" "KS0" "[I") ∈ lw_all := lw_g (lw_at lw_m1 177 rfl) rfl
theorem q188 : (Jvm.Cond.laysStatic "BCrypt" "KS0" "[I") ∈ lw_tbl := lw_at lw_m1 178 rfl
theorem q189 : (Jvm.Cond.methodLink "BCrypt" (23 : Nat) ({ cls := "java/lang/System", name := "arraycopy", desc := "(Ljava/lang/Object;ILjava/lang/Object;II)V" } : Jvm.MethodName)) ∈ lw_all := lw_g (lw_at lw_m1 179 rfl) rfl
theorem q190 : (Jvm.Cond.fieldLink "BCrypt" (29 : Nat) "BCrypt" "KS1" "[I") ∈ lw_all := lw_g (lw_at lw_m1 180 rfl) rfl
theorem q191 : (Jvm.Cond.laysStatic "BCrypt" "KS1" "[I") ∈ lw_tbl := lw_at lw_m1 181 rfl
theorem q192 : (Jvm.Cond.fieldLink "BCrypt" (32 : Nat) "BCrypt" "KS2" "[I") ∈ lw_all := lw_g (lw_at lw_m1 182 rfl) rfl
theorem q193 : (Jvm.Cond.laysStatic "BCrypt" "KS2" "[I") ∈ lw_tbl := lw_at lw_m1 183 rfl
theorem q194 : (Jvm.Cond.fieldLink "BCrypt" (35 : Nat) "BCrypt" "KS3" "[I") ∈ lw_all := lw_g (lw_at lw_m1 184 rfl) rfl
theorem q195 : (Jvm.Cond.laysStatic "BCrypt" "KS3" "[I") ∈ lw_tbl := lw_at lw_m1 185 rfl
theorem q196 : (Jvm.Cond.fieldLink "BCrypt" (38 : Nat) "BCrypt" "KP" "[I") ∈ lw_all := lw_g (lw_at lw_m1 186 rfl) rfl
theorem q197 : (Jvm.Cond.laysStatic "BCrypt" "KP" "[I") ∈ lw_tbl := lw_at lw_m1 187 rfl
theorem q198 : (Jvm.Cond.methodLink "BCrypt" (71 : Nat) ({ cls := "Pack", name := "bigEndianToInt", desc := "([BI[I)V" } : Jvm.MethodName)) ∈ lw_all := lw_g (lw_at lw_m1 188 rfl) rfl
theorem q204 : (Jvm.Cond.methodLink "BCrypt" (75 : Nat) ({ cls := "BCrypt", name := "cyclicXorKey", desc := "([B)V" } : Jvm.MethodName)) ∈ lw_all := lw_g (lw_at lw_m1 194 rfl) rfl
theorem q205 : (Jvm.Cond.privateMethod ({ cls := "BCrypt", name := "cyclicXorKey", desc := "([B)V" } : Jvm.MethodName)) ∈ lw_tbl := lw_at lw_m1 195 rfl
theorem q206 : (Jvm.Cond.instanceMethod ({ cls := "BCrypt", name := "cyclicXorKey", desc := "([B)V" } : Jvm.MethodName)) ∈ lw_all := lw_g (lw_at lw_m1 196 rfl) rfl
theorem q207 : (Jvm.Cond.code ({ cls := "BCrypt", name := "cyclicXorKey", desc := "([B)V" } : Jvm.MethodName) prog_1_method_5_code (7 : Nat) (Option.none : Option Jvm.ClassFile.FieldType)) ∈ lw_all := lw_g (lw_at lw_m1 197 rfl) rfl
theorem q208 : (Jvm.Cond.methodLink "BCrypt" (79 : Nat) ({ cls := "BCrypt", name := "processTableWithSalt", desc := "([I[III)V" } : Jvm.MethodName)) ∈ lw_all := lw_g (lw_at lw_m1 198 rfl) rfl
theorem q209 : (Jvm.Cond.privateMethod ({ cls := "BCrypt", name := "processTableWithSalt", desc := "([I[III)V" } : Jvm.MethodName)) ∈ lw_tbl := lw_at lw_m1 199 rfl
theorem q210 : (Jvm.Cond.instanceMethod ({ cls := "BCrypt", name := "processTableWithSalt", desc := "([I[III)V" } : Jvm.MethodName)) ∈ lw_all := lw_g (lw_at lw_m1 200 rfl) rfl
theorem q211 : (Jvm.Cond.code ({ cls := "BCrypt", name := "processTableWithSalt", desc := "([I[III)V" } : Jvm.MethodName) prog_1_method_7_code (12 : Nat) (Option.none : Option Jvm.ClassFile.FieldType)) ∈ lw_all := lw_g (lw_at lw_m1 201 rfl) rfl
theorem q212 : (Jvm.Cond.methodLink "BCrypt" (16 : Nat) ({ cls := "BCrypt", name := "F", desc := "(I)I" } : Jvm.MethodName)) ∈ lw_all := lw_g (lw_at lw_m1 202 rfl) rfl
theorem q213 : (Jvm.Cond.privateMethod ({ cls := "BCrypt", name := "F", desc := "(I)I" } : Jvm.MethodName)) ∈ lw_tbl := lw_at lw_m1 203 rfl
theorem q214 : (Jvm.Cond.instanceMethod ({ cls := "BCrypt", name := "F", desc := "(I)I" } : Jvm.MethodName)) ∈ lw_all := lw_g (lw_at lw_m1 204 rfl) rfl
theorem q215 : (Jvm.Cond.code ({ cls := "BCrypt", name := "F", desc := "(I)I" } : Jvm.MethodName) prog_1_method_2_code (2 : Nat) (Option.some Jvm.ClassFile.FieldType.int)) ∈ lw_all := lw_g (lw_at lw_m1 205 rfl) rfl
theorem q216 : (Jvm.Cond.methodLink "BCrypt" (50 : Nat) ({ cls := "OwnArrays", name := "fill", desc := "([II)V" } : Jvm.MethodName)) ∈ lw_all := lw_g (lw_at lw_m1 206 rfl) rfl
theorem q222 : (Jvm.Cond.methodLink "BCrypt" (83 : Nat) ({ cls := "BCrypt", name := "processTable", desc := "(II[I)V" } : Jvm.MethodName)) ∈ lw_all := lw_g (lw_at lw_m1 212 rfl) rfl
theorem q223 : (Jvm.Cond.privateMethod ({ cls := "BCrypt", name := "processTable", desc := "(II[I)V" } : Jvm.MethodName)) ∈ lw_tbl := lw_at lw_m1 213 rfl
theorem q224 : (Jvm.Cond.instanceMethod ({ cls := "BCrypt", name := "processTable", desc := "(II[I)V" } : Jvm.MethodName)) ∈ lw_all := lw_g (lw_at lw_m1 214 rfl) rfl
theorem q225 : (Jvm.Cond.code ({ cls := "BCrypt", name := "processTable", desc := "(II[I)V" } : Jvm.MethodName) prog_1_method_3_code (7 : Nat) (Option.none : Option Jvm.ClassFile.FieldType)) ∈ lw_all := lw_g (lw_at lw_m1 215 rfl) rfl
theorem q226 : (Jvm.Cond.methodLink "BCrypt" (87 : Nat) ({ cls := "BCrypt", name := "encryptMagicString", desc := "()[B" } : Jvm.MethodName)) ∈ lw_all := lw_g (lw_at lw_m1 216 rfl) rfl
theorem q227 : (Jvm.Cond.privateMethod ({ cls := "BCrypt", name := "encryptMagicString", desc := "()[B" } : Jvm.MethodName)) ∈ lw_tbl := lw_at lw_m1 217 rfl
theorem q228 : (Jvm.Cond.instanceMethod ({ cls := "BCrypt", name := "encryptMagicString", desc := "()[B" } : Jvm.MethodName)) ∈ lw_all := lw_g (lw_at lw_m1 218 rfl) rfl
theorem q229 : (Jvm.Cond.code ({ cls := "BCrypt", name := "encryptMagicString", desc := "()[B" } : Jvm.MethodName) prog_1_method_6_code (7 : Nat) (Option.some (Jvm.ClassFile.FieldType.array Jvm.ClassFile.FieldType.byte))) ∈ lw_all := lw_g (lw_at lw_m1 219 rfl) rfl
theorem q230 : (Jvm.Cond.fieldLink "BCrypt" (41 : Nat) "BCrypt" "MAGIC_STRING" "[I") ∈ lw_all := lw_g (lw_at lw_m1 220 rfl) rfl
theorem q231 : (Jvm.Cond.laysStatic "BCrypt" "MAGIC_STRING" "[I") ∈ lw_tbl := lw_at lw_m1 221 rfl
theorem q232 : (Jvm.Cond.methodLink "BCrypt" (44 : Nat) ({ cls := "Pack", name := "intToBigEndian", desc := "([I[BI)V" } : Jvm.MethodName)) ∈ lw_all := lw_g (lw_at lw_m1 222 rfl) rfl
theorem in_X2 : ∀ w ∈ wsX20, w ∈ lw_all := lw_in wsX20 [152, 154] (by decide +kernel) (by decide +kernel)
end
section
/-! the law's own entry -/
set_option maxRecDepth 100000
abbrev cL_law : ByteArray := code
def dkwL_law_10 : List UInt8 := [132, 3, 6, 167, 255, 36, 4, 172]
abbrev dktL_law_10 : List UInt8 := dkwL_law_10 ++ []
def dkwL_law_9 : List UInt8 := [43, 42, 29, 4, 96, 46, 182, 0, 31, 44, 42, 29, 4, 96, 46, 182, 0, 35, 159, 0, 5, 3, 172]
abbrev dktL_law_9 : List UInt8 := dkwL_law_9 ++ dktL_law_10
def dkwL_law_8 : List UInt8 := [167, 0, 47, 43, 42, 29, 4, 96, 46, 182, 0, 27, 44, 42, 29, 4, 96, 46, 182, 0, 30, 167, 0, 26]
abbrev dktL_law_8 : List UInt8 := dkwL_law_8 ++ dktL_law_9
def dkwL_law_7 : List UInt8 := [44, 42, 29, 4, 96, 46, 42, 29, 5, 96, 46, 42, 29, 6, 96, 46, 42, 29, 7, 96, 46, 182, 0, 26]
abbrev dktL_law_7 : List UInt8 := dkwL_law_7 ++ dktL_law_8
def dkwL_law_6 : List UInt8 := [43, 42, 29, 4, 96, 46, 42, 29, 5, 96, 46, 42, 29, 6, 96, 46, 42, 29, 7, 96, 46, 182, 0, 23]
abbrev dktL_law_6 : List UInt8 := dkwL_law_6 ++ dktL_law_7
def dkwL_law_5 : List UInt8 := [167, 0, 119, 43, 42, 29, 4, 96, 46, 182, 0, 18, 44, 42, 29, 4, 96, 46, 182, 0, 22, 167, 0, 98]
abbrev dktL_law_5 : List UInt8 := dkwL_law_5 ++ dktL_law_6
def dkwL_law_4 : List UInt8 := [44, 42, 29, 4, 96, 46, 42, 29, 5, 96, 46, 42, 29, 6, 96, 46, 42, 29, 7, 96, 46, 182, 0, 17]
abbrev dktL_law_4 : List UInt8 := dkwL_law_4 ++ dktL_law_5
def dkwL_law_3 : List UInt8 := [43, 42, 29, 4, 96, 46, 42, 29, 5, 96, 46, 42, 29, 6, 96, 46, 42, 29, 7, 96, 46, 182, 0, 13]
abbrev dktL_law_3 : List UInt8 := dkwL_law_3 ++ dktL_law_4
def dkwL_law_2 : List UInt8 := [170, 0, 0, 0, 0, 0, 202, 0, 0, 0, 0, 0, 0, 0, 4, 0, 0, 0, 35, 0, 0, 0, 86, 0, 0, 0, 107, 0, 0, 0, 158, 0, 0, 0, 179]
abbrev dktL_law_2 : List UInt8 := dkwL_law_2 ++ dktL_law_3
def dkwL_law_1 : List UInt8 := [163, 0, 217, 42, 29, 46, 16, 7, 126]
abbrev dktL_law_1 : List UInt8 := dkwL_law_1 ++ dktL_law_2
def dkwL_law_0 : List UInt8 := [187, 0, 7, 89, 183, 0, 9, 76, 187, 0, 10, 89, 183, 0, 12, 77, 3, 62, 29, 42, 190, 16, 6, 100]
abbrev dktL_law_0 : List UInt8 := dkwL_law_0 ++ dktL_law_1
theorem dksL_law_0 : cL_law.data.toList.drop 0 = dktL_law_0 := by decide +kernel
theorem dksL_law_1 : cL_law.data.toList.drop 24 = dktL_law_1 := dk_seg dksL_law_0 24 rfl rfl
theorem dksL_law_2 : cL_law.data.toList.drop 33 = dktL_law_2 := dk_seg dksL_law_1 9 rfl rfl
theorem dksL_law_3 : cL_law.data.toList.drop 68 = dktL_law_3 := dk_seg dksL_law_2 35 rfl rfl
theorem dksL_law_4 : cL_law.data.toList.drop 92 = dktL_law_4 := dk_seg dksL_law_3 24 rfl rfl
theorem dksL_law_5 : cL_law.data.toList.drop 116 = dktL_law_5 := dk_seg dksL_law_4 24 rfl rfl
theorem dksL_law_6 : cL_law.data.toList.drop 140 = dktL_law_6 := dk_seg dksL_law_5 24 rfl rfl
theorem dksL_law_7 : cL_law.data.toList.drop 164 = dktL_law_7 := dk_seg dksL_law_6 24 rfl rfl
theorem dksL_law_8 : cL_law.data.toList.drop 188 = dktL_law_8 := dk_seg dksL_law_7 24 rfl rfl
theorem dksL_law_9 : cL_law.data.toList.drop 212 = dktL_law_9 := dk_seg dksL_law_8 24 rfl rfl
theorem dksL_law_10 : cL_law.data.toList.drop 235 = dktL_law_10 := dk_seg dksL_law_9 23 rfl rfl
theorem dL_law_0 : decode cL_law 0 = .ok (.new 7, 3) := dk_187 0 7 (dk_at dksL_law_0 0 rfl rfl)
theorem dL_law_3 : decode cL_law 3 = .ok (.dup, 1) := dk_89 (dk_at dksL_law_0 3 rfl rfl)
theorem dL_law_4 : decode cL_law 4 = .ok (.invokespecial 9, 3) := dk_183 0 9 (dk_at dksL_law_0 4 rfl rfl)
theorem dL_law_7 : decode cL_law 7 = .ok (.astore_n 1, 1) := dk_76 (dk_at dksL_law_0 7 rfl rfl)
theorem dL_law_8 : decode cL_law 8 = .ok (.new 10, 3) := dk_187 0 10 (dk_at dksL_law_0 8 rfl rfl)
theorem dL_law_11 : decode cL_law 11 = .ok (.dup, 1) := dk_89 (dk_at dksL_law_0 11 rfl rfl)
theorem dL_law_12 : decode cL_law 12 = .ok (.invokespecial 12, 3) := dk_183 0 12 (dk_at dksL_law_0 12 rfl rfl)
theorem dL_law_15 : decode cL_law 15 = .ok (.astore_n 2, 1) := dk_77 (dk_at dksL_law_0 15 rfl rfl)
theorem dL_law_16 : decode cL_law 16 = .ok (.iconst 0, 1) := dk_3 (dk_at dksL_law_0 16 rfl rfl)
theorem dL_law_17 : decode cL_law 17 = .ok (.istore_n 3, 1) := dk_62 (dk_at dksL_law_0 17 rfl rfl)
theorem dL_law_18 : decode cL_law 18 = .ok (.iload_n 3, 1) := dk_29 (dk_at dksL_law_0 18 rfl rfl)
theorem dL_law_19 : decode cL_law 19 = .ok (.aload_n 0, 1) := dk_42 (dk_at dksL_law_0 19 rfl rfl)
theorem dL_law_20 : decode cL_law 20 = .ok (.arraylength, 1) := dk_190 (dk_at dksL_law_0 20 rfl rfl)
theorem dL_law_21 : decode cL_law 21 = .ok (.bipush 6, 2) := dk_16 6 (dk_at dksL_law_0 21 rfl rfl)
theorem dL_law_23 : decode cL_law 23 = .ok (.isub, 1) := dk_100 (dk_at dksL_law_0 23 rfl rfl)
theorem dL_law_24 : decode cL_law 24 = .ok (.if_icmp .gt 217, 3) := dk_163 0 217 (dk_at dksL_law_1 0 rfl rfl)
theorem dL_law_27 : decode cL_law 27 = .ok (.aload_n 0, 1) := dk_42 (dk_at dksL_law_1 3 rfl rfl)
theorem dL_law_28 : decode cL_law 28 = .ok (.iload_n 3, 1) := dk_29 (dk_at dksL_law_1 4 rfl rfl)
theorem dL_law_29 : decode cL_law 29 = .ok (.iaload, 1) := dk_46 (dk_at dksL_law_1 5 rfl rfl)
theorem dL_law_30 : decode cL_law 30 = .ok (.bipush 7, 2) := dk_16 7 (dk_at dksL_law_1 6 rfl rfl)
theorem dL_law_32 : decode cL_law 32 = .ok (.iand, 1) := dk_126 (dk_at dksL_law_1 8 rfl rfl)
theorem dL_law_33 : decode cL_law 33 = .ok (.tableswitch 202 0 4 #[35, 86, 107, 158, 179], 35) := by decide +kernel
theorem dL_law_68 : decode cL_law 68 = .ok (.aload_n 1, 1) := dk_43 (dk_at dksL_law_3 0 rfl rfl)
theorem dL_law_69 : decode cL_law 69 = .ok (.aload_n 0, 1) := dk_42 (dk_at dksL_law_3 1 rfl rfl)
theorem dL_law_70 : decode cL_law 70 = .ok (.iload_n 3, 1) := dk_29 (dk_at dksL_law_3 2 rfl rfl)
theorem dL_law_71 : decode cL_law 71 = .ok (.iconst 1, 1) := dk_4 (dk_at dksL_law_3 3 rfl rfl)
theorem dL_law_72 : decode cL_law 72 = .ok (.iadd, 1) := dk_96 (dk_at dksL_law_3 4 rfl rfl)
theorem dL_law_73 : decode cL_law 73 = .ok (.iaload, 1) := dk_46 (dk_at dksL_law_3 5 rfl rfl)
theorem dL_law_74 : decode cL_law 74 = .ok (.aload_n 0, 1) := dk_42 (dk_at dksL_law_3 6 rfl rfl)
theorem dL_law_75 : decode cL_law 75 = .ok (.iload_n 3, 1) := dk_29 (dk_at dksL_law_3 7 rfl rfl)
theorem dL_law_76 : decode cL_law 76 = .ok (.iconst 2, 1) := dk_5 (dk_at dksL_law_3 8 rfl rfl)
theorem dL_law_77 : decode cL_law 77 = .ok (.iadd, 1) := dk_96 (dk_at dksL_law_3 9 rfl rfl)
theorem dL_law_78 : decode cL_law 78 = .ok (.iaload, 1) := dk_46 (dk_at dksL_law_3 10 rfl rfl)
theorem dL_law_79 : decode cL_law 79 = .ok (.aload_n 0, 1) := dk_42 (dk_at dksL_law_3 11 rfl rfl)
theorem dL_law_80 : decode cL_law 80 = .ok (.iload_n 3, 1) := dk_29 (dk_at dksL_law_3 12 rfl rfl)
theorem dL_law_81 : decode cL_law 81 = .ok (.iconst 3, 1) := dk_6 (dk_at dksL_law_3 13 rfl rfl)
theorem dL_law_82 : decode cL_law 82 = .ok (.iadd, 1) := dk_96 (dk_at dksL_law_3 14 rfl rfl)
theorem dL_law_83 : decode cL_law 83 = .ok (.iaload, 1) := dk_46 (dk_at dksL_law_3 15 rfl rfl)
theorem dL_law_84 : decode cL_law 84 = .ok (.aload_n 0, 1) := dk_42 (dk_at dksL_law_3 16 rfl rfl)
theorem dL_law_85 : decode cL_law 85 = .ok (.iload_n 3, 1) := dk_29 (dk_at dksL_law_3 17 rfl rfl)
theorem dL_law_86 : decode cL_law 86 = .ok (.iconst 4, 1) := dk_7 (dk_at dksL_law_3 18 rfl rfl)
theorem dL_law_87 : decode cL_law 87 = .ok (.iadd, 1) := dk_96 (dk_at dksL_law_3 19 rfl rfl)
theorem dL_law_88 : decode cL_law 88 = .ok (.iaload, 1) := dk_46 (dk_at dksL_law_3 20 rfl rfl)
theorem dL_law_89 : decode cL_law 89 = .ok (.invokevirtual 13, 3) := dk_182 0 13 (dk_at dksL_law_3 21 rfl rfl)
theorem dL_law_92 : decode cL_law 92 = .ok (.aload_n 2, 1) := dk_44 (dk_at dksL_law_4 0 rfl rfl)
theorem dL_law_93 : decode cL_law 93 = .ok (.aload_n 0, 1) := dk_42 (dk_at dksL_law_4 1 rfl rfl)
theorem dL_law_94 : decode cL_law 94 = .ok (.iload_n 3, 1) := dk_29 (dk_at dksL_law_4 2 rfl rfl)
theorem dL_law_95 : decode cL_law 95 = .ok (.iconst 1, 1) := dk_4 (dk_at dksL_law_4 3 rfl rfl)
theorem dL_law_96 : decode cL_law 96 = .ok (.iadd, 1) := dk_96 (dk_at dksL_law_4 4 rfl rfl)
theorem dL_law_97 : decode cL_law 97 = .ok (.iaload, 1) := dk_46 (dk_at dksL_law_4 5 rfl rfl)
theorem dL_law_98 : decode cL_law 98 = .ok (.aload_n 0, 1) := dk_42 (dk_at dksL_law_4 6 rfl rfl)
theorem dL_law_99 : decode cL_law 99 = .ok (.iload_n 3, 1) := dk_29 (dk_at dksL_law_4 7 rfl rfl)
theorem dL_law_100 : decode cL_law 100 = .ok (.iconst 2, 1) := dk_5 (dk_at dksL_law_4 8 rfl rfl)
theorem dL_law_101 : decode cL_law 101 = .ok (.iadd, 1) := dk_96 (dk_at dksL_law_4 9 rfl rfl)
theorem dL_law_102 : decode cL_law 102 = .ok (.iaload, 1) := dk_46 (dk_at dksL_law_4 10 rfl rfl)
theorem dL_law_103 : decode cL_law 103 = .ok (.aload_n 0, 1) := dk_42 (dk_at dksL_law_4 11 rfl rfl)
theorem dL_law_104 : decode cL_law 104 = .ok (.iload_n 3, 1) := dk_29 (dk_at dksL_law_4 12 rfl rfl)
theorem dL_law_105 : decode cL_law 105 = .ok (.iconst 3, 1) := dk_6 (dk_at dksL_law_4 13 rfl rfl)
theorem dL_law_106 : decode cL_law 106 = .ok (.iadd, 1) := dk_96 (dk_at dksL_law_4 14 rfl rfl)
theorem dL_law_107 : decode cL_law 107 = .ok (.iaload, 1) := dk_46 (dk_at dksL_law_4 15 rfl rfl)
theorem dL_law_108 : decode cL_law 108 = .ok (.aload_n 0, 1) := dk_42 (dk_at dksL_law_4 16 rfl rfl)
theorem dL_law_109 : decode cL_law 109 = .ok (.iload_n 3, 1) := dk_29 (dk_at dksL_law_4 17 rfl rfl)
theorem dL_law_110 : decode cL_law 110 = .ok (.iconst 4, 1) := dk_7 (dk_at dksL_law_4 18 rfl rfl)
theorem dL_law_111 : decode cL_law 111 = .ok (.iadd, 1) := dk_96 (dk_at dksL_law_4 19 rfl rfl)
theorem dL_law_112 : decode cL_law 112 = .ok (.iaload, 1) := dk_46 (dk_at dksL_law_4 20 rfl rfl)
theorem dL_law_113 : decode cL_law 113 = .ok (.invokevirtual 17, 3) := dk_182 0 17 (dk_at dksL_law_4 21 rfl rfl)
theorem dL_law_116 : decode cL_law 116 = .ok (.goto 119, 3) := dk_167 0 119 (dk_at dksL_law_5 0 rfl rfl)
theorem dL_law_119 : decode cL_law 119 = .ok (.aload_n 1, 1) := dk_43 (dk_at dksL_law_5 3 rfl rfl)
theorem dL_law_120 : decode cL_law 120 = .ok (.aload_n 0, 1) := dk_42 (dk_at dksL_law_5 4 rfl rfl)
theorem dL_law_121 : decode cL_law 121 = .ok (.iload_n 3, 1) := dk_29 (dk_at dksL_law_5 5 rfl rfl)
theorem dL_law_122 : decode cL_law 122 = .ok (.iconst 1, 1) := dk_4 (dk_at dksL_law_5 6 rfl rfl)
theorem dL_law_123 : decode cL_law 123 = .ok (.iadd, 1) := dk_96 (dk_at dksL_law_5 7 rfl rfl)
theorem dL_law_124 : decode cL_law 124 = .ok (.iaload, 1) := dk_46 (dk_at dksL_law_5 8 rfl rfl)
theorem dL_law_125 : decode cL_law 125 = .ok (.invokevirtual 18, 3) := dk_182 0 18 (dk_at dksL_law_5 9 rfl rfl)
theorem dL_law_128 : decode cL_law 128 = .ok (.aload_n 2, 1) := dk_44 (dk_at dksL_law_5 12 rfl rfl)
theorem dL_law_129 : decode cL_law 129 = .ok (.aload_n 0, 1) := dk_42 (dk_at dksL_law_5 13 rfl rfl)
theorem dL_law_130 : decode cL_law 130 = .ok (.iload_n 3, 1) := dk_29 (dk_at dksL_law_5 14 rfl rfl)
theorem dL_law_131 : decode cL_law 131 = .ok (.iconst 1, 1) := dk_4 (dk_at dksL_law_5 15 rfl rfl)
theorem dL_law_132 : decode cL_law 132 = .ok (.iadd, 1) := dk_96 (dk_at dksL_law_5 16 rfl rfl)
theorem dL_law_133 : decode cL_law 133 = .ok (.iaload, 1) := dk_46 (dk_at dksL_law_5 17 rfl rfl)
theorem dL_law_134 : decode cL_law 134 = .ok (.invokevirtual 22, 3) := dk_182 0 22 (dk_at dksL_law_5 18 rfl rfl)
theorem dL_law_137 : decode cL_law 137 = .ok (.goto 98, 3) := dk_167 0 98 (dk_at dksL_law_5 21 rfl rfl)
theorem dL_law_140 : decode cL_law 140 = .ok (.aload_n 1, 1) := dk_43 (dk_at dksL_law_6 0 rfl rfl)
theorem dL_law_141 : decode cL_law 141 = .ok (.aload_n 0, 1) := dk_42 (dk_at dksL_law_6 1 rfl rfl)
theorem dL_law_142 : decode cL_law 142 = .ok (.iload_n 3, 1) := dk_29 (dk_at dksL_law_6 2 rfl rfl)
theorem dL_law_143 : decode cL_law 143 = .ok (.iconst 1, 1) := dk_4 (dk_at dksL_law_6 3 rfl rfl)
theorem dL_law_144 : decode cL_law 144 = .ok (.iadd, 1) := dk_96 (dk_at dksL_law_6 4 rfl rfl)
theorem dL_law_145 : decode cL_law 145 = .ok (.iaload, 1) := dk_46 (dk_at dksL_law_6 5 rfl rfl)
theorem dL_law_146 : decode cL_law 146 = .ok (.aload_n 0, 1) := dk_42 (dk_at dksL_law_6 6 rfl rfl)
theorem dL_law_147 : decode cL_law 147 = .ok (.iload_n 3, 1) := dk_29 (dk_at dksL_law_6 7 rfl rfl)
theorem dL_law_148 : decode cL_law 148 = .ok (.iconst 2, 1) := dk_5 (dk_at dksL_law_6 8 rfl rfl)
theorem dL_law_149 : decode cL_law 149 = .ok (.iadd, 1) := dk_96 (dk_at dksL_law_6 9 rfl rfl)
theorem dL_law_150 : decode cL_law 150 = .ok (.iaload, 1) := dk_46 (dk_at dksL_law_6 10 rfl rfl)
theorem dL_law_151 : decode cL_law 151 = .ok (.aload_n 0, 1) := dk_42 (dk_at dksL_law_6 11 rfl rfl)
theorem dL_law_152 : decode cL_law 152 = .ok (.iload_n 3, 1) := dk_29 (dk_at dksL_law_6 12 rfl rfl)
theorem dL_law_153 : decode cL_law 153 = .ok (.iconst 3, 1) := dk_6 (dk_at dksL_law_6 13 rfl rfl)
theorem dL_law_154 : decode cL_law 154 = .ok (.iadd, 1) := dk_96 (dk_at dksL_law_6 14 rfl rfl)
theorem dL_law_155 : decode cL_law 155 = .ok (.iaload, 1) := dk_46 (dk_at dksL_law_6 15 rfl rfl)
theorem dL_law_156 : decode cL_law 156 = .ok (.aload_n 0, 1) := dk_42 (dk_at dksL_law_6 16 rfl rfl)
theorem dL_law_157 : decode cL_law 157 = .ok (.iload_n 3, 1) := dk_29 (dk_at dksL_law_6 17 rfl rfl)
theorem dL_law_158 : decode cL_law 158 = .ok (.iconst 4, 1) := dk_7 (dk_at dksL_law_6 18 rfl rfl)
theorem dL_law_159 : decode cL_law 159 = .ok (.iadd, 1) := dk_96 (dk_at dksL_law_6 19 rfl rfl)
theorem dL_law_160 : decode cL_law 160 = .ok (.iaload, 1) := dk_46 (dk_at dksL_law_6 20 rfl rfl)
theorem dL_law_161 : decode cL_law 161 = .ok (.invokevirtual 23, 3) := dk_182 0 23 (dk_at dksL_law_6 21 rfl rfl)
theorem dL_law_164 : decode cL_law 164 = .ok (.aload_n 2, 1) := dk_44 (dk_at dksL_law_7 0 rfl rfl)
theorem dL_law_165 : decode cL_law 165 = .ok (.aload_n 0, 1) := dk_42 (dk_at dksL_law_7 1 rfl rfl)
theorem dL_law_166 : decode cL_law 166 = .ok (.iload_n 3, 1) := dk_29 (dk_at dksL_law_7 2 rfl rfl)
theorem dL_law_167 : decode cL_law 167 = .ok (.iconst 1, 1) := dk_4 (dk_at dksL_law_7 3 rfl rfl)
theorem dL_law_168 : decode cL_law 168 = .ok (.iadd, 1) := dk_96 (dk_at dksL_law_7 4 rfl rfl)
theorem dL_law_169 : decode cL_law 169 = .ok (.iaload, 1) := dk_46 (dk_at dksL_law_7 5 rfl rfl)
theorem dL_law_170 : decode cL_law 170 = .ok (.aload_n 0, 1) := dk_42 (dk_at dksL_law_7 6 rfl rfl)
theorem dL_law_171 : decode cL_law 171 = .ok (.iload_n 3, 1) := dk_29 (dk_at dksL_law_7 7 rfl rfl)
theorem dL_law_172 : decode cL_law 172 = .ok (.iconst 2, 1) := dk_5 (dk_at dksL_law_7 8 rfl rfl)
theorem dL_law_173 : decode cL_law 173 = .ok (.iadd, 1) := dk_96 (dk_at dksL_law_7 9 rfl rfl)
theorem dL_law_174 : decode cL_law 174 = .ok (.iaload, 1) := dk_46 (dk_at dksL_law_7 10 rfl rfl)
theorem dL_law_175 : decode cL_law 175 = .ok (.aload_n 0, 1) := dk_42 (dk_at dksL_law_7 11 rfl rfl)
theorem dL_law_176 : decode cL_law 176 = .ok (.iload_n 3, 1) := dk_29 (dk_at dksL_law_7 12 rfl rfl)
theorem dL_law_177 : decode cL_law 177 = .ok (.iconst 3, 1) := dk_6 (dk_at dksL_law_7 13 rfl rfl)
theorem dL_law_178 : decode cL_law 178 = .ok (.iadd, 1) := dk_96 (dk_at dksL_law_7 14 rfl rfl)
theorem dL_law_179 : decode cL_law 179 = .ok (.iaload, 1) := dk_46 (dk_at dksL_law_7 15 rfl rfl)
theorem dL_law_180 : decode cL_law 180 = .ok (.aload_n 0, 1) := dk_42 (dk_at dksL_law_7 16 rfl rfl)
theorem dL_law_181 : decode cL_law 181 = .ok (.iload_n 3, 1) := dk_29 (dk_at dksL_law_7 17 rfl rfl)
theorem dL_law_182 : decode cL_law 182 = .ok (.iconst 4, 1) := dk_7 (dk_at dksL_law_7 18 rfl rfl)
theorem dL_law_183 : decode cL_law 183 = .ok (.iadd, 1) := dk_96 (dk_at dksL_law_7 19 rfl rfl)
theorem dL_law_184 : decode cL_law 184 = .ok (.iaload, 1) := dk_46 (dk_at dksL_law_7 20 rfl rfl)
theorem dL_law_185 : decode cL_law 185 = .ok (.invokevirtual 26, 3) := dk_182 0 26 (dk_at dksL_law_7 21 rfl rfl)
theorem dL_law_188 : decode cL_law 188 = .ok (.goto 47, 3) := dk_167 0 47 (dk_at dksL_law_8 0 rfl rfl)
theorem dL_law_191 : decode cL_law 191 = .ok (.aload_n 1, 1) := dk_43 (dk_at dksL_law_8 3 rfl rfl)
theorem dL_law_192 : decode cL_law 192 = .ok (.aload_n 0, 1) := dk_42 (dk_at dksL_law_8 4 rfl rfl)
theorem dL_law_193 : decode cL_law 193 = .ok (.iload_n 3, 1) := dk_29 (dk_at dksL_law_8 5 rfl rfl)
theorem dL_law_194 : decode cL_law 194 = .ok (.iconst 1, 1) := dk_4 (dk_at dksL_law_8 6 rfl rfl)
theorem dL_law_195 : decode cL_law 195 = .ok (.iadd, 1) := dk_96 (dk_at dksL_law_8 7 rfl rfl)
theorem dL_law_196 : decode cL_law 196 = .ok (.iaload, 1) := dk_46 (dk_at dksL_law_8 8 rfl rfl)
theorem dL_law_197 : decode cL_law 197 = .ok (.invokevirtual 27, 3) := dk_182 0 27 (dk_at dksL_law_8 9 rfl rfl)
theorem dL_law_200 : decode cL_law 200 = .ok (.aload_n 2, 1) := dk_44 (dk_at dksL_law_8 12 rfl rfl)
theorem dL_law_201 : decode cL_law 201 = .ok (.aload_n 0, 1) := dk_42 (dk_at dksL_law_8 13 rfl rfl)
theorem dL_law_202 : decode cL_law 202 = .ok (.iload_n 3, 1) := dk_29 (dk_at dksL_law_8 14 rfl rfl)
theorem dL_law_203 : decode cL_law 203 = .ok (.iconst 1, 1) := dk_4 (dk_at dksL_law_8 15 rfl rfl)
theorem dL_law_204 : decode cL_law 204 = .ok (.iadd, 1) := dk_96 (dk_at dksL_law_8 16 rfl rfl)
theorem dL_law_205 : decode cL_law 205 = .ok (.iaload, 1) := dk_46 (dk_at dksL_law_8 17 rfl rfl)
theorem dL_law_206 : decode cL_law 206 = .ok (.invokevirtual 30, 3) := dk_182 0 30 (dk_at dksL_law_8 18 rfl rfl)
theorem dL_law_209 : decode cL_law 209 = .ok (.goto 26, 3) := dk_167 0 26 (dk_at dksL_law_8 21 rfl rfl)
theorem dL_law_212 : decode cL_law 212 = .ok (.aload_n 1, 1) := dk_43 (dk_at dksL_law_9 0 rfl rfl)
theorem dL_law_213 : decode cL_law 213 = .ok (.aload_n 0, 1) := dk_42 (dk_at dksL_law_9 1 rfl rfl)
theorem dL_law_214 : decode cL_law 214 = .ok (.iload_n 3, 1) := dk_29 (dk_at dksL_law_9 2 rfl rfl)
theorem dL_law_215 : decode cL_law 215 = .ok (.iconst 1, 1) := dk_4 (dk_at dksL_law_9 3 rfl rfl)
theorem dL_law_216 : decode cL_law 216 = .ok (.iadd, 1) := dk_96 (dk_at dksL_law_9 4 rfl rfl)
theorem dL_law_217 : decode cL_law 217 = .ok (.iaload, 1) := dk_46 (dk_at dksL_law_9 5 rfl rfl)
theorem dL_law_218 : decode cL_law 218 = .ok (.invokevirtual 31, 3) := dk_182 0 31 (dk_at dksL_law_9 6 rfl rfl)
theorem dL_law_221 : decode cL_law 221 = .ok (.aload_n 2, 1) := dk_44 (dk_at dksL_law_9 9 rfl rfl)
theorem dL_law_222 : decode cL_law 222 = .ok (.aload_n 0, 1) := dk_42 (dk_at dksL_law_9 10 rfl rfl)
theorem dL_law_223 : decode cL_law 223 = .ok (.iload_n 3, 1) := dk_29 (dk_at dksL_law_9 11 rfl rfl)
theorem dL_law_224 : decode cL_law 224 = .ok (.iconst 1, 1) := dk_4 (dk_at dksL_law_9 12 rfl rfl)
theorem dL_law_225 : decode cL_law 225 = .ok (.iadd, 1) := dk_96 (dk_at dksL_law_9 13 rfl rfl)
theorem dL_law_226 : decode cL_law 226 = .ok (.iaload, 1) := dk_46 (dk_at dksL_law_9 14 rfl rfl)
theorem dL_law_227 : decode cL_law 227 = .ok (.invokevirtual 35, 3) := dk_182 0 35 (dk_at dksL_law_9 15 rfl rfl)
theorem dL_law_230 : decode cL_law 230 = .ok (.if_icmp .eq 5, 3) := dk_159 0 5 (dk_at dksL_law_9 18 rfl rfl)
theorem dL_law_233 : decode cL_law 233 = .ok (.iconst 0, 1) := dk_3 (dk_at dksL_law_9 21 rfl rfl)
theorem dL_law_234 : decode cL_law 234 = .ok (.ireturn, 1) := dk_172 (dk_at dksL_law_9 22 rfl rfl)
theorem dL_law_235 : decode cL_law 235 = .ok (.iinc 3 6, 3) := dk_132 3 6 (dk_at dksL_law_10 0 rfl rfl)
theorem dL_law_238 : decode cL_law 238 = .ok (.goto (-220), 3) := dk_167 255 36 (dk_at dksL_law_10 3 rfl rfl)
theorem dL_law_241 : decode cL_law 241 = .ok (.iconst 1, 1) := dk_4 (dk_at dksL_law_10 6 rfl rfl)
theorem dL_law_242 : decode cL_law 242 = .ok (.ireturn, 1) := dk_172 (dk_at dksL_law_10 7 rfl rfl)
end
section
/-! HELPERS OF OUR OWN OVER THE KIT'S ROWS: one world for all methods, calls with the frame rule in one row, static arrays -/
set_option maxRecDepth 100000
abbrev vwCl : List vw_C := [(RX0, TX0, 4), (RX1, TX1, 7), (RX2, TX2, 2)]
/-- the two array classes -/
abbrev tyL (cI cB : ClassId) : List (ClassId × FieldType) := [(cI, .int), (cB, .byte)]
/-- an array cell of ints (or bytes: they are Int32 in the world too) -/
abbrev aI (cA : ClassId) (h n : Nat) (f : Nat → Int32) : Nat × va_E := (h, .inl (cA, n, .inl f))
abbrev oBC (h hS hP : Nat) : Nat × va_E := (h, .inr (2, [.ref hS, .ref hP]))
abbrev oDesk (h hw : Nat) (z : Int32) (hs ho : Nat) : Nat × va_E := (h, .inr (0, [.ref hw, .int z, .ref hs, .ref ho]))
abbrev oMod (h hw : Nat) (z : Int32) (hs ho ht : Nat) (lf rt : Int32) : Nat × va_E := (h, .inr (1, [.ref hw, .int z, .ref hs, .ref ho, .ref ht, .int lf, .int rt]))
/-- a contract's start -/
def cx_Pre (D : va_G) (tys : List (ClassId × FieldType)) (av : List Value) (wc : va_W) (sz : Nat) (Ex : State → Prop) : Array Value → State → Prop := va_Pc av (fun U => U.heap.size = sz ∧ va_P D vwCl wc U.heap ∧ va_K D vwCl tys U ∧ va_D (fun _ => True) wc ∧ Ex U)
/-- the start of a method that writes nothing -/
def cx_Pp (D : va_G) (tys : List (ClassId × FieldType)) (av : List Value) (wc : va_W) : Array Value → State → Prop := va_Pc av (fun U => va_P D vwCl wc U.heap ∧ va_K D vwCl tys U)
abbrev cx_Qv {S : Type} (D : va_G) (wc : va_W) (sz : Nat) (post : S → Prop) (w1 : S → va_W) : Array Value → State → Outcome → State → Prop := va_Qv post (fun u t => va_P D vwCl (w1 u) t.heap ∧ va_D (va_A wc sz) (w1 u)) (va_A wc sz)
abbrev cx_Qr {S : Type} (D : va_G) (wc : va_W) (sz : Nat) (post : S → Prop) (w1 : S → Nat → va_W) : Array Value → State → Outcome → State → Prop := va_Qr post (fun u ra t => va_P D vwCl (w1 u ra) t.heap ∧ va_D (va_A wc sz) (w1 u ra)) (va_A wc sz)
/-- nothing more is asked -/
def cx_No : State → Prop := fun _ => True
theorem cx_No_b : ∀ (a : Array Value) (U : State) (g : JFrame) (mk : MethodId), cx_No U → cx_No (U.calling g mk a) := fun _ _ _ _ _ => trivial
theorem cx_blind {D : va_G} {tys : List (ClassId × FieldType)} {av : List Value} {wc : va_W} {sz : Nat} {Ex : State → Prop} (hE : ∀ (a : Array Value) (U : State) (g : JFrame) (mk : MethodId), Ex U → Ex (U.calling g mk a)) : FrameBlind (cx_Pre D tys av wc sz Ex) := by
  intro a U g mk q
  obtain ⟨q0, q1, qP, qK, qD, qE⟩ := q
  exact ⟨q0, q1, qP, va_K.moved (u := U) (U := U.calling g mk a) (Vm.Alike.refl U.vm) qK, qD, hE a U g mk qE⟩
theorem cx_blindp {D : va_G} {tys : List (ClassId × FieldType)} {av : List Value} {wc : va_W} : FrameBlind (cx_Pp D tys av wc) := by
  intro a U g mk q
  obtain ⟨q0, qP, qK⟩ := q
  exact ⟨q0, qP, va_K.moved (u := U) (U := U.calling g mk a) (Vm.Alike.refl U.vm) qK⟩
section CX1
variable {s : State} {H : Heap} {D : va_G} {A : Nat → Prop} {tys : List (ClassId × FieldType)} {ws wc : va_W} {av As : List Value} {Ex : State → Prop}
theorem cx_preS (hP : va_P D vwCl ws H) (hD : va_D A ws) (hK : va_K D vwCl tys s) (isC : List Nat) (h1 : isC.filterMap (fun i => ws[i]?) = wc) (h2 : va_nd isC = true) (h3 : isC.map (fun i => ws[i]?) = wc.map some) (hE : ∀ (a : Array Value) (U : State) (g : JFrame) (mk : MethodId), Ex U → Ex (U.calling g mk a)) (hE2 : ∀ U : State, U.heap = H → s.WarmedH U.vm → Ex U) : PreS s H (cx_Pre D tys av wc H.size Ex) av :=
  ⟨cx_blind hE, fun U hU hW => ⟨rfl, by rw [hU], by rw [hU]; exact hP.sub isC h1, va_K.moved hW.alike hK, (hD.sub isC h2 h3).weaken (fun _ _ _ _ => trivial), hE2 U hU hW⟩⟩
theorem cx_preV {b q0 ci : Nat} {q : vw_C} {fs : List Value} (hc : vwCl[ci]? = some q) (he : ws[q0]? = some (b, .inr (ci, fs))) (hP : va_P D vwCl ws H) (hD : va_D A ws) (hK : va_K D vwCl tys s) (isC : List Nat) (h1 : isC.filterMap (fun i => ws[i]?) = wc) (h2 : va_nd isC = true) (h3 : isC.map (fun i => ws[i]?) = wc.map some) (hE : ∀ (a : Array Value) (U : State) (g : JFrame) (mk : MethodId), Ex U → Ex (U.calling g mk a)) (hE2 : ∀ U : State, U.heap = H → s.WarmedH U.vm → Ex U) : PreV s H q.1 b (cx_Pre D tys (.ref b :: As) wc H.size Ex) As :=
  ⟨cx_blind hE, va_recv hK hP hc he, fun U hU hW => ⟨rfl, by rw [hU], by rw [hU]; exact hP.sub isC h1, va_K.moved hW.alike hK, (hD.sub isC h2 h3).weaken (fun _ _ _ _ => trivial), hE2 U hU hW⟩⟩
theorem cx_ppS (hP : va_P D vwCl ws H) (hK : va_K D vwCl tys s) (isC : List Nat) (h1 : isC.filterMap (fun i => ws[i]?) = wc) : PreS s H (cx_Pp D tys av wc) av :=
  ⟨cx_blindp, fun U hU hW => ⟨rfl, by rw [hU]; exact hP.sub isC h1, va_K.moved hW.alike hK⟩⟩
theorem cx_ppV {b q0 ci : Nat} {q : vw_C} {fs : List Value} (hc : vwCl[ci]? = some q) (he : ws[q0]? = some (b, .inr (ci, fs))) (hP : va_P D vwCl ws H) (hK : va_K D vwCl tys s) (isC : List Nat) (h1 : isC.filterMap (fun i => ws[i]?) = wc) : PreV s H q.1 b (cx_Pp D tys (.ref b :: As) wc) As :=
  ⟨cx_blindp, va_recv hK hP hc he, fun U hU hW => ⟨rfl, by rw [hU]; exact hP.sub isC h1, va_K.moved hW.alike hK⟩⟩
end CX1
section CX2
variable {p : Program} {l : Launch} {e : Env} {R : Room} {s : State} {m : MethodId} {args : Array Value} {below : List Frame} {meth : Method} {c : Code} {H : Heap} {locs : List Loc} {cells slots : Nat} {Q : State → Prop}
variable {cc : ByteArray} {pc : Nat} {ls : Array Slot} {rest : List Value} {D : va_G} {A : Nat → Prop} {a : Nat} {tys : List (ClassId × FieldType)} {ws : va_W} {H0 : Heap}
/-- the end by a name -/
theorem cx_Q {Q0 : State → Prop} {g : JFrame} (k : ∀ Q : State → Prop, Q = Q0 → W p l e R s m args below meth c H locs cells slots Q g) : W p l e R s m args below meth c H locs cells slots Q0 g := k Q0 rfl
/-- the number on top, by another name -/
theorem cx_top {x : Int32} (y : Int32) (h : x = y) (k : W p l e R s m args below meth c H locs cells slots Q (F0 m pc ls (.int y :: rest))) : W p l e R s m args below meth c H locs cells slots Q (F0 m pc ls (.int x :: rest)) := by
  rw [h]
  exact k
/-- the second from the top, by another name -/
theorem cx_top2 {v : Value} {x : Int32} (y : Int32) (h : x = y) (k : W p l e R s m args below meth c H locs cells slots Q (F0 m pc ls (v :: .int y :: rest))) : W p l e R s m args below meth c H locs cells slots Q (F0 m pc ls (v :: .int x :: rest)) := by
  rw [h]
  exact k
theorem cx_iald (hexec : p.tables.exec = Jvm.exec) (hb : c.code = cc) (hK : va_K D vwCl tys s) (hP : va_P D vwCl ws H) (q0 t0 : Nat) {cA : ClassId} {n : Nat} {f : Nat → Int32} (ha : ws[q0]? = some (a, .inl (cA, n, .inl f))) (ht : tys[t0]? = some (cA, .int)) {x : Int32} (k : Nat) (hx : x = nI k) (hk : k < n) (hn : n < 2 ^ 31) (hdg : decode cc pc = .ok (.iaload, 1))
    (kk : W p l e R s m args below meth c H locs cells slots Q (F0 m (pc + 1) ls (.int (f k) :: rest))) : W p l e R s m args below meth c H locs cells slots Q (F0 m pc ls (.int x :: .ref a :: rest)) := by
  subst hx
  refine va_iald hexec hb hK hP q0 t0 ha ht (vp_in_nI hk hn) hdg ?_
  rw [nI_clamp (Nat.lt_trans hk hn)]
  exact kk
theorem cx_bald (hexec : p.tables.exec = Jvm.exec) (hb : c.code = cc) (hK : va_K D vwCl tys s) (hP : va_P D vwCl ws H) (q0 t0 : Nat) {cA : ClassId} {n : Nat} {f : Nat → Int32} (ha : ws[q0]? = some (a, .inl (cA, n, .inl f))) (ht : tys[t0]? = some (cA, .byte)) {x : Int32} (k : Nat) (hx : x = nI k) (hk : k < n) (hn : n < 2 ^ 31) (hdg : decode cc pc = .ok (.baload, 1))
    (kk : W p l e R s m args below meth c H locs cells slots Q (F0 m (pc + 1) ls (.int (f k) :: rest))) : W p l e R s m args below meth c H locs cells slots Q (F0 m pc ls (.int x :: .ref a :: rest)) := by
  subst hx
  refine va_bald hexec hb hK hP q0 t0 ha ht (vp_in_nI hk hn) hdg ?_
  rw [nI_clamp (Nat.lt_trans hk hn)]
  exact kk
theorem cx_iast (hexec : p.tables.exec = Jvm.exec) (hb : c.code = cc) (hK : va_K D vwCl tys s) (hP : va_P D vwCl ws H) (hD : va_D A ws) (hS : va_S A H0 H locs) (q0 t0 : Nat) {cA : ClassId} {n : Nat} {f : Nat → Int32} (ha : ws[q0]? = some (a, .inl (cA, n, .inl f))) (ht : tys[t0]? = some (cA, .int)) {x v : Int32} (k : Nat) (hx : x = nI k) (hk : k < n) (hn : n < 2 ^ 31) (hdg : decode cc pc = .ok (.iastore, 1))
    (kk : ∀ (H1 : Heap) (locs1 : List Loc), va_P D vwCl (ws.set q0 (a, .inl (cA, n, .inl (upd f k v)))) H1 → va_D A (ws.set q0 (a, .inl (cA, n, .inl (upd f k v)))) → va_S A H0 H1 locs1 → W p l e R s m args below meth c H1 locs1 cells slots Q (F0 m (pc + 1) ls rest)) : W p l e R s m args below meth c H locs cells slots Q (F0 m pc ls (.int v :: .int x :: .ref a :: rest)) := by
  subst hx
  refine va_iast hexec hb hK hP hD hS q0 t0 ha ht (vp_in_nI hk hn) hdg ?_
  rw [nI_clamp (Nat.lt_trans hk hn)]
  exact kk
theorem cx_bast (hexec : p.tables.exec = Jvm.exec) (hb : c.code = cc) (hK : va_K D vwCl tys s) (hP : va_P D vwCl ws H) (hD : va_D A ws) (hS : va_S A H0 H locs) (q0 t0 : Nat) {cA : ClassId} {n : Nat} {f : Nat → Int32} (ha : ws[q0]? = some (a, .inl (cA, n, .inl f))) (ht : tys[t0]? = some (cA, .byte)) {x v : Int32} (k : Nat) (hx : x = nI k) (hk : k < n) (hn : n < 2 ^ 31) (hdg : decode cc pc = .ok (.bastore, 1))
    (kk : ∀ (H1 : Heap) (locs1 : List Loc), va_P D vwCl (ws.set q0 (a, .inl (cA, n, .inl (upd f k (vp_nar .byte v))))) H1 → va_D A (ws.set q0 (a, .inl (cA, n, .inl (upd f k (vp_nar .byte v))))) → va_S A H0 H1 locs1 → W p l e R s m args below meth c H1 locs1 cells slots Q (F0 m (pc + 1) ls rest)) : W p l e R s m args below meth c H locs cells slots Q (F0 m pc ls (.int v :: .int x :: .ref a :: rest)) := by
  subst hx
  refine va_bast hexec hb hK hP hD hS q0 t0 ha ht (vp_in_nI hk hn) hdg ?_
  rw [nI_clamp (Nat.lt_trans hk hn)]
  exact kk
theorem cx_sld (hexec : p.tables.exec = Jvm.exec) (hb : c.code = cc) {b L : Nat} {xs : Nat → Int32} (hX : va_X b L xs s H0) (hbl : b < H0.size) (hbA : ¬ A b) (hS : va_S A H0 H locs) {x : Int32} (k : Nat) (hx : x = nI k) (hk : k < L) (hn : L < 2 ^ 31) (hdg : decode cc pc = .ok (.iaload, 1))
    (kk : W p l e R s m args below meth c H locs cells slots Q (F0 m (pc + 1) ls (.int (xs k) :: rest))) : W p l e R s m args below meth c H locs cells slots Q (F0 m pc ls (.int x :: .ref b :: rest)) := by
  subst hx
  refine va_sld hexec hb hX hbl hbA hS (vp_in_nI hk hn) hdg ?_
  rw [nI_clamp (Nat.lt_trans hk hn)]
  exact kk
/-- a call that answers nothing: the callee's cells come back beside the rest, which is unchanged -/
theorem cx_callv {S : Type} {post : S → Prop} {wc wr : va_W} {w1 : S → va_W} {mc ms : Nat} {st0 : List Value} {av : Array Value} (hr : va_Run p l e R s m args below meth c H locs cells slots mc ms (F0 m pc ls st0) rest (cx_Qv D wc H.size post w1 av) (va_A wc H.size)) (hP : va_P D vwCl ws H) (hD : va_D A ws) (hS : va_S A H0 H locs) (hA : ∀ q, H0.size ≤ q → A q) (isC isR : List Nat) (hC : isC.map (fun i => ws[i]?) = wc.map some) (hR : isR.map (fun i => ws[i]?) = wr.map some) (hn : va_nd isR = true) (hdis : ∀ i ∈ isR, i ∉ isC)
    (kk : ∀ (u : S) (H1 : Heap) (locs1 : List Loc), post u → va_P D vwCl (wr ++ w1 u) H1 → va_D A (wr ++ w1 u) → va_S A H0 H1 locs1 → W p l e R s m args below meth c H1 locs1 (cells + mc) (slots + ms) Q (F0 m (pc + 3) ls rest)) : W p l e R s m args below meth c H locs cells slots Q (F0 m pc ls st0) := by
  have hFc := va_free (wc := wc) hD hS hA isC hC
  refine va_callv hr hS (fun q _ h => hFc q h) hFc (fun u t H1 locs1 ht hvm hw hB hz hk hS1 => ?_)
  obtain ⟨hP1, hD1⟩ := hB
  rw [ht] at hP1
  obtain ⟨hP2, hD2⟩ := va_join hP hD isC isR hC hR hn hdis hk hFc hP1 hD1
  exact kk u H1 locs1 hw hP2 hD2 hS1
/-- a call that answers a cell -/
theorem cx_callr {S : Type} {post : S → Prop} {wc wr : va_W} {w1 : S → Nat → va_W} {mc ms : Nat} {st0 : List Value} {av : Array Value} (hr : va_Run p l e R s m args below meth c H locs cells slots mc ms (F0 m pc ls st0) rest (cx_Qr D wc H.size post w1 av) (va_A wc H.size)) (hP : va_P D vwCl ws H) (hD : va_D A ws) (hS : va_S A H0 H locs) (hA : ∀ q, H0.size ≤ q → A q) (isC isR : List Nat) (hC : isC.map (fun i => ws[i]?) = wc.map some) (hR : isR.map (fun i => ws[i]?) = wr.map some) (hn : va_nd isR = true) (hdis : ∀ i ∈ isR, i ∉ isC)
    (kk : ∀ (u : S) (ra : Nat) (H1 : Heap) (locs1 : List Loc), post u → va_P D vwCl (wr ++ w1 u ra) H1 → va_D A (wr ++ w1 u ra) → va_S A H0 H1 locs1 → W p l e R s m args below meth c H1 locs1 (cells + mc) (slots + ms) Q (F0 m (pc + 3) ls (.ref ra :: rest))) : W p l e R s m args below meth c H locs cells slots Q (F0 m pc ls st0) := by
  have hFc := va_free (wc := wc) hD hS hA isC hC
  refine va_callr hr hS (fun q _ h => hFc q h) hFc (fun u ra t H1 locs1 ht hvm hw hB hz hk hS1 => ?_)
  obtain ⟨hP1, hD1⟩ := hB
  rw [ht] at hP1
  obtain ⟨hP2, hD2⟩ := va_join hP hD isC isR hC hR hn hdis hk hFc hP1 hD1
  exact kk u ra H1 locs1 hw hP2 hD2 hS1
end CX2
/-- one array class of ints -/
theorem cx_same {D : va_G} {cl : List vw_C} {tys : List (ClassId × FieldType)} {s : State} (hK : va_K D cl tys s) (i j : Nat) {x y : ClassId} {ty : FieldType} (hi : tys[i]? = some (x, ty)) (hj : tys[j]? = some (y, ty)) (hr : refKind ty = false) : y = x := by
  have h1 := (hK.2 i _ hi).2
  have h2 := (hK.2 j _ hj).2
  cases ty with
  | object C => simp [refKind] at hr
  | _ => exact Option.some.inj (h2.symm.trans h1)
section CX3
variable {p : Program} {l : Launch} {e : Env} {R : Room} {s : State} {m : MethodId} {args : Array Value} {below : List Frame} {meth : Method} {c : Code} {H : Heap} {locs : List Loc} {cells slots : Nat} {Q : State → Prop}
variable {cc : ByteArray} {pc : Nat} {ls : Array Slot} {rest : List Value} {D : va_G} {A : Nat → Prop} {ws : va_W} {H0 : Heap} {cI cB : ClassId}
/-- a new int array of k zeros -/
theorem cx_newI (hexec : p.tables.exec = Jvm.exec) (hb : c.code = cc) (harr : (Cond.arrayClass .int).before args s = true) (hK : va_K D vwCl (tyL cI cB) s) (hP : va_P D vwCl ws H) (hD : va_D A ws) (hS : va_S A H0 H locs) (hA : ∀ q, H0.size ≤ q → A q) {x : Int32} (k : Nat) (hx : x = nI k) (hk : k ≤ 100000) (hcells : cells + 1 ≤ R.cells) (hslots : slots + k ≤ R.slots) (hdg : decode cc pc = .ok (.newarray .int, 2))
    (kk : ∀ (q : Nat) (H1 : Heap), va_P D vwCl (ws ++ [aI cI q k (fun _ => 0)]) H1 → va_D A (ws ++ [aI cI q k (fun _ => 0)]) → va_S A H0 H1 locs → W p l e R s m args below meth c H1 locs (cells + 1) (slots + k) Q (F0 m (pc + 2) ls (.ref q :: rest))) : W p l e R s m args below meth c H locs cells slots Q (F0 m pc ls (.int x :: rest)) := by
  subst hx
  refine va_newa (atype := .int) (ty := .int) (a0 := (k, .inl (fun _ => 0))) (N' := k) hexec hb harr rfl hK hP hD hS hA (fun cA => rfl) (nI_pos (by omega)) (nI_clamp (by omega)) (by show k * 4 ≤ _; omega) hcells hslots hdg (fun q cA H1 hK1 hP1 hD1 hS1 => ?_)
  have hc : cA = cI := cx_same hK1 0 2 rfl rfl rfl
  subst hc
  exact kk q H1 hP1 hD1 hS1
/-- a new byte array of k zeros -/
theorem cx_newB (hexec : p.tables.exec = Jvm.exec) (hb : c.code = cc) (harr : (Cond.arrayClass .byte).before args s = true) (hK : va_K D vwCl (tyL cI cB) s) (hP : va_P D vwCl ws H) (hD : va_D A ws) (hS : va_S A H0 H locs) (hA : ∀ q, H0.size ≤ q → A q) {x : Int32} (k : Nat) (hx : x = nI k) (hk : k ≤ 100000) (hcells : cells + 1 ≤ R.cells) (hslots : slots + k ≤ R.slots) (hdg : decode cc pc = .ok (.newarray .byte, 2))
    (kk : ∀ (q : Nat) (H1 : Heap), va_P D vwCl (ws ++ [aI cB q k (fun _ => 0)]) H1 → va_D A (ws ++ [aI cB q k (fun _ => 0)]) → va_S A H0 H1 locs → W p l e R s m args below meth c H1 locs (cells + 1) (slots + k) Q (F0 m (pc + 2) ls (.ref q :: rest))) : W p l e R s m args below meth c H locs cells slots Q (F0 m pc ls (.int x :: rest)) := by
  subst hx
  refine va_newa (atype := .byte) (ty := .byte) (a0 := (k, .inl (fun _ => 0))) (N' := k) hexec hb harr rfl hK hP hD hS hA (fun cA => rfl) (nI_pos (by omega)) (nI_clamp (by omega)) (by show k * 1 ≤ _; omega) hcells hslots hdg (fun q cA H1 hK1 hP1 hD1 hS1 => ?_)
  have hc : cA = cB := cx_same hK1 1 2 rfl rfl rfl
  subst hc
  exact kk q H1 hP1 hD1 hS1
end CX3
/-! static arrays of ints that nobody writes -/
def cx_St (C n : String) (N : Nat) (f : Nat → Int32) (A : Nat → Prop) (U : State) (H : Heap) : Prop := ∃ t : Nat, va_Z C n "[I" (.ref t) A U H ∧ va_X t N f U H ∧ t < H.size ∧ ¬ A t
theorem cx_St.moved {C n : String} {N : Nat} {f : Nat → Int32} {A : Nat → Prop} {u U : State} {H : Heap} (hvm : u.vm.Alike U.vm) (h : cx_St C n N f A u H) : cx_St C n N f A U H := by
  obtain ⟨t, h1, h2, h3⟩ := h
  exact ⟨t, h1.moved hvm, h2.moved hvm, h3⟩
theorem cx_St.kept {C n : String} {N : Nat} {f : Nat → Int32} {A : Nat → Prop} {U : State} {H H1 : Heap} (h : cx_St C n N f A U H) (hz : H.size ≤ H1.size) (hq : ∀ a : Nat, a < H.size → ¬ A a → H1[a]? = H[a]?) : cx_St C n N f A U H1 := by
  obtain ⟨t, h1, h2, h3, h4⟩ := h
  exact ⟨t, h1.kept hq, h2.kept (hq t h3 h4), Nat.lt_of_lt_of_le h3 hz, h4⟩
theorem cx_St.narrow {C n : String} {N : Nat} {f : Nat → Int32} {A B : Nat → Prop} {U : State} {H : Heap} (h : cx_St C n N f A U H) (hAB : ∀ q, B q → A q) : cx_St C n N f B U H := by
  obtain ⟨t, h1, h2, h3, h4⟩ := h
  exact ⟨t, h1.narrow hAB, h2, h3, fun z => h4 (hAB t z)⟩
/-- a static array for a callee: unchanged so far, and not of its cells -/
theorem cx_St.pass {C n : String} {N : Nat} {f : Nat → Int32} {A B : Nat → Prop} {s U : State} {H : Heap} {locs : List Loc} (h : cx_St C n N f A s s.heap) (hS : va_S A s.heap H locs) (hAB : ∀ q, B q → A q) (hU : U.heap = H) (hW : s.WarmedH U.vm) : cx_St C n N f B U U.heap := by
  rw [hU]
  exact ((h.kept hS.1 hS.2.1).narrow hAB).moved hW.alike
theorem cx_St.call {C n : String} {N : Nat} {f : Nat → Int32} {A : Nat → Prop} {U : State} {g : JFrame} {mk : MethodId} {a : Array Value} (h : cx_St C n N f A U U.heap) : cx_St C n N f A (U.calling g mk a) (U.calling g mk a).heap := h.moved (u := U) (U := U.calling g mk a) (Vm.Alike.refl U.vm)
/-- all the static arrays that BCrypt reads -/
def cx_Bc (T : Nat → Int32) (M : Nat → Int32) (A : Nat → Prop) (U : State) : Prop := cx_St "BCrypt" "KP" 18 T A U U.heap ∧ cx_St "BCrypt" "KS0" 256 (fun j => T (18 + j)) A U U.heap ∧ cx_St "BCrypt" "KS1" 256 (fun j => T (274 + j)) A U U.heap ∧ cx_St "BCrypt" "KS2" 256 (fun j => T (530 + j)) A U U.heap ∧ cx_St "BCrypt" "KS3" 256 (fun j => T (786 + j)) A U U.heap ∧ cx_St "BCrypt" "MAGIC_STRING" 6 M A U U.heap
theorem cx_Bc_b {T M : Nat → Int32} {A : Nat → Prop} : ∀ (a : Array Value) (U : State) (g : JFrame) (mk : MethodId), cx_Bc T M A U → cx_Bc T M A (U.calling g mk a) := fun _ _ _ _ h => ⟨h.1.call, h.2.1.call, h.2.2.1.call, h.2.2.2.1.call, h.2.2.2.2.1.call, h.2.2.2.2.2.call⟩
theorem cx_Bc.pass {T M : Nat → Int32} {A B : Nat → Prop} {s U : State} {H : Heap} {locs : List Loc} (h : cx_Bc T M A s) (hS : va_S A s.heap H locs) (hAB : ∀ q, B q → A q) (hU : U.heap = H) (hW : s.WarmedH U.vm) : cx_Bc T M B U := ⟨h.1.pass hS hAB hU hW, h.2.1.pass hS hAB hU hW, h.2.2.1.pass hS hAB hU hW, h.2.2.2.1.pass hS hAB hU hW, h.2.2.2.2.1.pass hS hAB hU hW, h.2.2.2.2.2.pass hS hAB hU hW⟩
/-- an array's contents count below its length alone -/
theorem cx_alike {D : va_G} {cl : List vw_C} {ws : va_W} {H : Heap} (h : va_P D cl ws H) (k : Nat) {cA : ClassId} {a n : Nat} {f : Nat → Int32} (g : Nat → Int32) (hk : ws[k]? = some (aI cA a n f)) (hfg : ∀ j, j < n → f j = g j) : va_P D cl (ws.set k (aI cA a n g)) H := by
  have e : vp_cell cA (n, .inl f) = vp_cell cA (n, .inl g) := by
    rw [vp_cell_i, vp_cell_i]
    unfold arrV
    have e2 : (fun j : Fin n => Value.int (f j.val)) = (fun j : Fin n => Value.int (g j.val)) := funext fun j => by rw [hfg j.val j.isLt]
    rw [e2]
  intro i q hq
  by_cases hi : i = k
  · subst hi
    have hl : i < ws.length := (List.getElem?_eq_some_iff.mp hk).1
    rw [List.getElem?_set_self hl] at hq
    cases hq
    have h1 : H[a]? = some (vp_cell cA (n, .inl f)) := h i _ hk
    show H[a]? = some (vp_cell cA (n, .inl g))
    rw [← e]
    exact h1
  · rw [List.getElem?_set_ne (fun q => hi q.symm)] at hq
    exact h i q hq
/-- the reference's static array -/
def cx_Pi (T : Nat → Int32) (A : Nat → Prop) (U : State) : Prop := cx_St "CryptDeskModel" "PI" 1042 T A U U.heap
theorem cx_Pi_b {T : Nat → Int32} {A : Nat → Prop} : ∀ (a : Array Value) (U : State) (g : JFrame) (mk : MethodId), cx_Pi T A U → cx_Pi T A (U.calling g mk a) := fun _ _ _ _ h => cx_St.call h
theorem cx_Pi.pass {T : Nat → Int32} {A B : Nat → Prop} {s U : State} {H : Heap} {locs : List Loc} (h : cx_Pi T A s) (hS : va_S A s.heap H locs) (hAB : ∀ q, B q → A q) (hU : U.heap = H) (hW : s.WarmedH U.vm) : cx_Pi T B U := cx_St.pass h hS hAB hU hW
end
section
set_option maxRecDepth 100000
/-! ===== Int32 by its bits: bt x i ===== -/
def bt (x : Int32) (i : Nat) : Bool := x.toBitVec.getLsbD i
theorem b_ext {x y : Int32} (h : ∀ i, i < 32 → bt x i = bt y i) : x = y := Int32.toBitVec_inj.mp (BitVec.eq_of_getLsbD_eq (fun i hi => h i hi))
theorem b_or (x y : Int32) (i : Nat) : bt (x ||| y) i = (bt x i || bt y i) := by unfold bt; rw [Int32.toBitVec_or, BitVec.getLsbD_or]
theorem b_and (x y : Int32) (i : Nat) : bt (x &&& y) i = (bt x i && bt y i) := by unfold bt; rw [Int32.toBitVec_and, BitVec.getLsbD_and]
theorem b_xor (x y : Int32) (i : Nat) : bt (x ^^^ y) i = (bt x i ^^ bt y i) := by unfold bt; rw [Int32.toBitVec_xor, BitVec.getLsbD_xor]
theorem b_big {x : Int32} {i : Nat} (h : 32 ≤ i) : bt x i = false := BitVec.getLsbD_of_ge _ _ h
theorem b_255 (i : Nat) : bt 255 i = decide (i < 8) := by
  rcases Nat.lt_or_ge i 32 with h | h
  · exact (by decide +kernel : ∀ i, i < 32 → bt 255 i = decide (i < 8)) i h
  · rw [b_big h, decide_eq_false (by omega)]
theorem b_65535 (i : Nat) : bt 65535 i = decide (i < 16) := by
  rcases Nat.lt_or_ge i 32 with h | h
  · exact (by decide +kernel : ∀ i, i < 32 → bt 65535 i = decide (i < 16)) i h
  · rw [b_big h, decide_eq_false (by omega)]
theorem b_m1 : ∀ i, i < 32 → bt (-1) i = true := by decide +kernel
theorem b_0 (i : Nat) : bt 0 i = false := BitVec.getLsbD_zero
theorem s_l : ∀ n, n < 32 → ((nI n &&& 31).toBitVec.smod 32).toNat = n := by decide +kernel
theorem s_u : ∀ n, n < 32 → (((nI n).toUInt32 &&& Int32.toUInt32 31).toBitVec % 32).toNat = n := by decide +kernel
theorem b_shl (n : Nat) (hn : n < 32) (x : Int32) {i : Nat} (hi : i < 32) : bt (x <<< (nI n &&& 31)) i = (decide (n ≤ i) && bt x (i - n)) := by
  unfold bt
  rw [Int32.toBitVec_shiftLeft]
  show (x.toBitVec <<< ((nI n &&& 31).toBitVec.smod 32).toNat).getLsbD i = _
  rw [s_l n hn, BitVec.getLsbD_shiftLeft]
  rcases Nat.lt_or_ge i n with h | h
  · simp [h, Nat.not_le.mpr h]
  · simp [hi, h, Nat.not_lt.mpr h]
theorem b_ushr (n : Nat) (hn : n < 32) (x : Int32) (i : Nat) : bt ((x.toUInt32 >>> ((nI n).toUInt32 &&& Int32.toUInt32 31)).toInt32) i = bt x (n + i) := by
  show (x.toUInt32 >>> ((nI n).toUInt32 &&& Int32.toUInt32 31)).toBitVec.getLsbD i = x.toUInt32.toBitVec.getLsbD (n + i)
  rw [UInt32.toBitVec_shiftRight]
  show (x.toUInt32.toBitVec >>> (((nI n).toUInt32 &&& Int32.toUInt32 31).toBitVec % 32).toNat).getLsbD i = _
  rw [s_u n hn, BitVec.getLsbD_ushiftRight]
theorem b_sshr (n : Nat) (hn : n < 32) (x : Int32) {i : Nat} (hi : i < 32) : bt (x >>> (nI n &&& 31)) i = if n + i < 32 then bt x (n + i) else bt x 31 := by
  unfold bt
  rw [Int32.toBitVec_shiftRight]
  show (x.toBitVec.sshiftRight ((nI n &&& 31).toBitVec.smod 32).toNat).getLsbD i = _
  rw [s_l n hn, BitVec.getLsbD_sshiftRight, BitVec.msb_eq_getLsbD_last]
  simp [hi]
theorem b_shl8 (x : Int32) {i : Nat} (hi : i < 32) : bt (x <<< ((8 : Int32) &&& 31)) i = (decide (8 ≤ i) && bt x (i - 8)) := b_shl 8 (by omega) x hi
theorem b_shl16 (x : Int32) {i : Nat} (hi : i < 32) : bt (x <<< ((16 : Int32) &&& 31)) i = (decide (16 ≤ i) && bt x (i - 16)) := b_shl 16 (by omega) x hi
theorem b_shl24 (x : Int32) {i : Nat} (hi : i < 32) : bt (x <<< ((24 : Int32) &&& 31)) i = (decide (24 ≤ i) && bt x (i - 24)) := b_shl 24 (by omega) x hi
theorem b_sshr8 (x : Int32) {i : Nat} (hi : i < 32) : bt (x >>> ((8 : Int32) &&& 31)) i = if 8 + i < 32 then bt x (8 + i) else bt x 31 := b_sshr 8 (by omega) x hi
/-! ===== a byte read unsigned ===== -/
theorem bp_b (x : Int32) : x.toInt8.toInt32 &&& 255 = x &&& 255 := by
  apply Int32.toBitVec_inj.mp
  rw [Int32.toBitVec_and, Int32.toBitVec_and, Int8.toBitVec_toInt32, Int32.toBitVec_toInt8]
  apply BitVec.eq_of_getLsbD_eq
  intro i hi
  rw [BitVec.getLsbD_and, BitVec.getLsbD_and]
  have hm : ∀ i < 32, 8 ≤ i → (255 : Int32).toBitVec.getLsbD i = false := by decide
  rcases Nat.lt_or_ge i 8 with z | z
  · rw [BitVec.getLsbD_signExtend, BitVec.getLsbD_signExtend, if_pos z, if_pos hi]
    simp only [z, hi, decide_true, Bool.true_and]
  · rw [hm i hi z]; simp
end
section
/-! THE MATHEMATICS: Blowfish as bcrypt uses it; no program in sight -/
set_option maxRecDepth 100000
theorem nI_bv (y : Int32) : y = nI y.toBitVec.toNat := by
  apply Int32.toBitVec_inj.1
  show y.toBitVec = BitVec.ofNat 32 y.toBitVec.toNat
  simp
def bb3 (x : Int32) : Nat := x.toBitVec.toNat / 2 ^ 24
def bb2 (x : Int32) : Nat := x.toBitVec.toNat / 2 ^ 16 % 2 ^ 8
def bb1 (x : Int32) : Nat := x.toBitVec.toNat / 2 ^ 8 % 2 ^ 8
def bb0 (x : Int32) : Nat := x.toBitVec.toNat % 2 ^ 8
theorem bb3_lt (x : Int32) : bb3 x < 256 := by
  have := x.toBitVec.isLt
  unfold bb3
  omega
theorem bb2_lt (x : Int32) : bb2 x < 256 := Nat.mod_lt _ (by decide)
theorem bb1_lt (x : Int32) : bb1 x < 256 := Nat.mod_lt _ (by decide)
theorem bb0_lt (x : Int32) : bb0 x < 256 := Nat.mod_lt _ (by decide)
theorem ix3 (x : Int32) : (x.toUInt32 >>> ((24 : Int32).toUInt32 &&& Int32.toUInt32 31)).toInt32 = nI (bb3 x) := by
  rw [nI_bv (x.toUInt32 >>> ((24 : Int32).toUInt32 &&& Int32.toUInt32 31)).toInt32, pk_ushr x 24 24 (by decide)]
  rfl
theorem ix2 (x : Int32) : (x.toUInt32 >>> ((16 : Int32).toUInt32 &&& Int32.toUInt32 31)).toInt32 &&& 255 = nI (bb2 x) := by
  rw [pk_and _ 8 (by decide), pk_ushr x 16 16 (by decide)]
  rfl
theorem ix1 (x : Int32) : (x.toUInt32 >>> ((8 : Int32).toUInt32 &&& Int32.toUInt32 31)).toInt32 &&& 255 = nI (bb1 x) := by
  rw [pk_and _ 8 (by decide), pk_ushr x 8 8 (by decide)]
  rfl
theorem ix0 (x : Int32) : x &&& 255 = nI (bb0 x) := pk_and x 8 (by decide)
/-- the round function over the four boxes -/
def bf_F (S : Nat → Int32) (x : Int32) : Int32 := ((S (bb3 x) + S (256 + bb2 x)) ^^^ S (512 + bb1 x)) + S (768 + bb0 x)
theorem bf_F_c {S S' : Nat → Int32} (h : ∀ j, j < 1024 → S j = S' j) (x : Int32) : bf_F S x = bf_F S' x := by
  have h3 := bb3_lt x
  have h2 := bb2_lt x
  have h1 := bb1_lt x
  have h0 := bb0_lt x
  unfold bf_F
  rw [h (bb3 x) (by omega), h (256 + bb2 x) (by omega), h (512 + bb1 x) (by omega), h (768 + bb0 x) (by omega)]
def bf_rd (P S : Nat → Int32) (i : Nat) (q : Int32 × Int32) : Int32 × Int32 := (q.2 ^^^ bf_F S (q.1 ^^^ P i), q.1 ^^^ P i)
def bf_rds (P S : Nat → Int32) : Nat → Int32 × Int32 → Int32 × Int32
  | 0, q => q
  | n + 1, q => bf_rd P S n (bf_rds P S n q)
/-- one block -/
def bf_enc (P S : Nat → Int32) (q : Int32 × Int32) : Int32 × Int32 := ((bf_rds P S 16 q).2 ^^^ P 17, (bf_rds P S 16 q).1 ^^^ P 16)
theorem bf_rds_c {P P' S S' : Nat → Int32} (hP : ∀ i, i < 18 → P i = P' i) (hS : ∀ j, j < 1024 → S j = S' j) (q : Int32 × Int32) : ∀ n, n ≤ 18 → bf_rds P S n q = bf_rds P' S' n q := by
  intro n
  induction n with
  | zero => intro _; rfl
  | succ n ih =>
    intro h
    show bf_rd P S n (bf_rds P S n q) = bf_rd P' S' n (bf_rds P' S' n q)
    rw [ih (by omega)]
    unfold bf_rd
    rw [hP n (by omega), bf_F_c hS]
theorem bf_enc_c {P P' S S' : Nat → Int32} (hP : ∀ i, i < 18 → P i = P' i) (hS : ∀ j, j < 1024 → S j = S' j) (q : Int32 × Int32) : bf_enc P S q = bf_enc P' S' q := by
  unfold bf_enc
  rw [bf_rds_c hP hS q 16 (by omega), hP 17 (by omega), hP 16 (by omega)]
/-- two rounds at a time, as the class does it -/
theorem bf_two {P S : Nat → Int32} {j : Nat} {q : Int32 × Int32} {xl xr xl' xr' : Int32} (h1 : xl = (bf_rds P S (2 * j) q).1 ^^^ P (2 * j)) (h2 : xr = (bf_rds P S (2 * j) q).2) (e1 : xr' = xr ^^^ (bf_F S xl ^^^ P (2 * j + 1))) (e2 : xl' = xl ^^^ (bf_F S xr' ^^^ P (2 * j + 1 + 1))) : xl' = (bf_rds P S (2 * (j + 1)) q).1 ^^^ P (2 * (j + 1)) ∧ xr' = (bf_rds P S (2 * (j + 1)) q).2 := by
  have a1 : bf_rd P S (2 * j) (bf_rds P S (2 * j) q) = (xr ^^^ bf_F S xl, xl) := by
    unfold bf_rd
    rw [← h1, ← h2]
  have a2 : (xr ^^^ bf_F S xl) ^^^ P (2 * j + 1) = xr' := by rw [e1, Int32.xor_assoc]
  have hr : bf_rds P S (2 * j + 1 + 1) q = (xl ^^^ bf_F S xr', xr') := by
    show bf_rd P S (2 * j + 1) (bf_rd P S (2 * j) (bf_rds P S (2 * j) q)) = _
    rw [a1]
    show (xl ^^^ bf_F S ((xr ^^^ bf_F S xl) ^^^ P (2 * j + 1)), (xr ^^^ bf_F S xl) ^^^ P (2 * j + 1)) = _
    rw [a2]
  rw [show 2 * (j + 1) = 2 * j + 1 + 1 by omega, hr]
  exact ⟨by rw [e2, Int32.xor_assoc], rfl⟩
/-- the boxes behind the 18 round words -/
def bf_S (T : Nat → Int32) : Nat → Int32 := fun j => T (18 + j)
/-- one block of the table: the halves take the salt's words, are locked, and stand in the table -/
def bf_st (w : Nat → Int32 × Int32) (k : Nat) (q : (Nat → Int32) × Int32 × Int32) : (Nat → Int32) × Int32 × Int32 :=
  (upd (upd q.1 (2 * k) (bf_enc q.1 (bf_S q.1) (q.2.1 ^^^ (w k).1, q.2.2 ^^^ (w k).2)).1) (2 * k + 1) (bf_enc q.1 (bf_S q.1) (q.2.1 ^^^ (w k).1, q.2.2 ^^^ (w k).2)).2, bf_enc q.1 (bf_S q.1) (q.2.1 ^^^ (w k).1, q.2.2 ^^^ (w k).2))
theorem bf_st_of {w : Nat → Int32 × Int32} {k : Nat} {q : (Nat → Int32) × Int32 × Int32} {a b : Int32} (hy : bf_enc q.1 (bf_S q.1) (q.2.1 ^^^ (w k).1, q.2.2 ^^^ (w k).2) = (a, b)) : bf_st w k q = (upd (upd q.1 (2 * k) a) (2 * k + 1) b, a, b) := by
  unfold bf_st
  rw [hy]
def bf_run (w : Nat → Int32 × Int32) (k0 : Nat) : Nat → (Nat → Int32) × Int32 × Int32 → (Nat → Int32) × Int32 × Int32
  | 0, q => q
  | n + 1, q => bf_st w (n + k0) (bf_run w k0 n q)
theorem bf_run_add (w : Nat → Int32 × Int32) (k0 a : Nat) (q : (Nat → Int32) × Int32 × Int32) : ∀ b, bf_run w k0 (a + b) q = bf_run w (a + k0) b (bf_run w k0 a q) := by
  intro b
  induction b with
  | zero => rfl
  | succ b ih =>
    show bf_st w (a + b + k0) (bf_run w k0 (a + b) q) = bf_st w (b + (a + k0)) (bf_run w (a + k0) b (bf_run w k0 a q))
    rw [ih, show a + b + k0 = b + (a + k0) by omega]
/-- the last two words written are the halves -/
theorem bf_run_lr (w : Nat → Int32 × Int32) (q : (Nat → Int32) × Int32 × Int32) : (bf_run w 0 9 q).1 16 = (bf_run w 0 9 q).2.1 ∧ (bf_run w 0 9 q).1 17 = (bf_run w 0 9 q).2.2 := by
  show (bf_st w (8 + 0) (bf_run w 0 8 q)).1 16 = (bf_st w (8 + 0) (bf_run w 0 8 q)).2.1 ∧ (bf_st w (8 + 0) (bf_run w 0 8 q)).1 17 = (bf_st w (8 + 0) (bf_run w 0 8 q)).2.2
  generalize bf_run w 0 8 q = z
  unfold bf_st
  generalize bf_enc z.1 (bf_S z.1) (z.2.1 ^^^ (w (8 + 0)).1, z.2.2 ^^^ (w (8 + 0)).2) = y
  constructor
  · show upd (upd z.1 16 y.1) 17 y.2 16 = y.1
    rw [pk_un (by omega), pk_us]
  · show upd (upd z.1 16 y.1) 17 y.2 17 = y.2
    rw [pk_us]
/-- the class's two arrays are the table's two parts -/
def bf_Ag (fP fS T : Nat → Int32) : Prop := (∀ i, i < 18 → fP i = T i) ∧ ∀ j, j < 1024 → fS j = T (18 + j)
theorem bf_Ag.enc {fP fS T : Nat → Int32} (h : bf_Ag fP fS T) (q : Int32 × Int32) : bf_enc fP fS q = bf_enc T (bf_S T) q := bf_enc_c h.1 h.2 q
theorem bf_Ag.putP {fP fS T : Nat → Int32} (h : bf_Ag fP fS T) {k : Nat} (hk : k < 9) (a b : Int32) : bf_Ag (upd (upd fP (2 * k) a) (2 * k + 1) b) fS (upd (upd T (2 * k) a) (2 * k + 1) b) := by
  constructor
  · intro i hi
    show (if i = 2 * k + 1 then b else if i = 2 * k then a else fP i) = (if i = 2 * k + 1 then b else if i = 2 * k then a else T i)
    rw [h.1 i hi]
  · intro j hj
    show fS j = (if 18 + j = 2 * k + 1 then b else if 18 + j = 2 * k then a else T (18 + j))
    rw [if_neg (by omega), if_neg (by omega)]
    exact h.2 j hj
theorem bf_Ag.putS {fP fS T : Nat → Int32} (h : bf_Ag fP fS T) {k : Nat} (a b : Int32) : bf_Ag fP (upd (upd fS (2 * k) a) (2 * k + 1) b) (upd (upd T (2 * (k + 9)) a) (2 * (k + 9) + 1) b) := by
  constructor
  · intro i hi
    show fP i = (if i = 2 * (k + 9) + 1 then b else if i = 2 * (k + 9) then a else T i)
    rw [if_neg (by omega), if_neg (by omega)]
    exact h.1 i hi
  · intro j hj
    show (if j = 2 * k + 1 then b else if j = 2 * k then a else fS j) = (if 18 + j = 2 * (k + 9) + 1 then b else if 18 + j = 2 * (k + 9) then a else T (18 + j))
    rw [h.2 j hj]
    by_cases h1 : j = 2 * k + 1
    · rw [if_pos h1, if_pos (show 18 + j = 2 * (k + 9) + 1 by omega)]
    · rw [if_neg h1, if_neg (show ¬ 18 + j = 2 * (k + 9) + 1 by omega)]
      by_cases h2 : j = 2 * k
      · rw [if_pos h2, if_pos (show 18 + j = 2 * (k + 9) by omega)]
      · rw [if_neg h2, if_neg (show ¬ 18 + j = 2 * (k + 9) by omega)]
/-- a block of the class's, written into P -/
theorem bf_blkP {w : Nat → Int32 × Int32} {k : Nat} {fP fS : Nat → Int32} {q : (Nat → Int32) × Int32 × Int32} {xl xr x1 x2 x3 : Int32} (hk : k < 9) (hA : bf_Ag fP fS q.1) (h1 : xl = q.2.1 ^^^ (w k).1) (h2 : xr = q.2.2 ^^^ (w k).2) (e1 : x1 = (bf_rds fP fS 16 (xl, xr)).1 ^^^ fP 16) (e2 : x2 = (bf_rds fP fS 16 (xl, xr)).2) (e3 : x3 = x2 ^^^ fP 17) : bf_Ag (upd (upd fP (2 * k) x3) (2 * k + 1) x1) fS (bf_st w k q).1 ∧ x3 = (bf_st w k q).2.1 ∧ x1 = (bf_st w k q).2.2 := by
  have hy : bf_enc q.1 (bf_S q.1) (q.2.1 ^^^ (w k).1, q.2.2 ^^^ (w k).2) = (x3, x1) := by
    rw [← h1, ← h2, ← hA.enc, bf_enc, ← e1, ← e2, ← e3]
  rw [bf_st_of hy]
  exact ⟨hA.putP hk _ _, rfl, rfl⟩
/-- a block of the class's, written into S -/
theorem bf_blkS {w : Nat → Int32 × Int32} {k : Nat} {fP fS : Nat → Int32} {q : (Nat → Int32) × Int32 × Int32} {xl xr x1 x2 x3 : Int32} (hA : bf_Ag fP fS q.1) (h1 : xl = q.2.1 ^^^ (w (k + 9)).1) (h2 : xr = q.2.2 ^^^ (w (k + 9)).2) (e1 : x1 = (bf_rds fP fS 16 (xl, xr)).1 ^^^ fP 16) (e2 : x2 = (bf_rds fP fS 16 (xl, xr)).2) (e3 : x3 = x2 ^^^ fP 17) : bf_Ag fP (upd (upd fS (2 * k) x3) (2 * k + 1) x1) (bf_st w (k + 9) q).1 ∧ x3 = (bf_st w (k + 9) q).2.1 ∧ x1 = (bf_st w (k + 9) q).2.2 := by
  have hy : bf_enc q.1 (bf_S q.1) (q.2.1 ^^^ (w (k + 9)).1, q.2.2 ^^^ (w (k + 9)).2) = (x3, x1) := by
    rw [← h1, ← h2, ← hA.enc, bf_enc, ← e1, ← e2, ← e3]
  rw [bf_st_of hy]
  exact ⟨hA.putS _ _, rfl, rfl⟩
def bf_w0 : Nat → Int32 × Int32 := fun _ => (0, 0)
theorem bf_x0 (x : Int32) : x = x ^^^ 0 := Int32.xor_zero.symm
/-- the key's words over the round words -/
def bf_key (kf T : Nat → Int32) : Nat → Int32 := fun i => if i < 18 then T i ^^^ kf i else T i
/-- four bytes, the first the highest, taken round -/
def bf_4 (g : Nat → Int32) (n a : Nat) : Nat → Int32
  | 0 => 0
  | i + 1 => (bf_4 g n a i <<< ((8 : Int32) &&& 31)) ||| g ((a + i) % n)
def bf_kf (g : Nat → Int32) (n : Nat) : Nat → Int32 := fun i => bf_4 g n (4 * i) 4
def bf_ws (g : Nat → Int32) : Nat → Int32 × Int32 := fun k => (bf_4 g 16 (4 * (2 * k)) 4, bf_4 g 16 (4 * (2 * k) + 4) 4)
def bf_spr (kf : Nat → Int32) (w : Nat → Int32 × Int32) (T : Nat → Int32) : Nat → Int32 := (bf_run w 0 521 (bf_key kf T, 0, 0)).1
def bf_rep (k1 k2 : Nat → Int32) : Nat → (Nat → Int32) → (Nat → Int32)
  | 0, T => T
  | r + 1, T => bf_spr k2 bf_w0 (bf_spr k1 bf_w0 (bf_rep k1 k2 r T))
/-- the table behind the whole key schedule: key bytes g (n of them), salt bytes h, r rounds -/
def bf_fin (g : Nat → Int32) (n : Nat) (h : Nat → Int32) (r : Nat) (T : Nat → Int32) : Nat → Int32 := bf_rep (bf_kf g n) (bf_kf h 16) r (bf_spr (bf_kf g n) (bf_ws h) T)
def bf_encN (T : Nat → Int32) : Nat → Int32 × Int32 → Int32 × Int32
  | 0, q => q
  | n + 1, q => bf_enc T (bf_S T) (bf_encN T n q)
/-- the m-th word of the answer -/
def bf_out (T M : Nat → Int32) (m : Nat) : Int32 := if m % 2 = 0 then (bf_encN T 64 (M (2 * (m / 2)), M (2 * (m / 2) + 1))).1 else (bf_encN T 64 (M (2 * (m / 2)), M (2 * (m / 2) + 1))).2
/-- the i-th byte of a word, the highest first -/
def bf_by (x : Int32) (i : Nat) : Int32 := (x.toUInt32 >>> ((nI (24 - 8 * i)).toUInt32 &&& Int32.toUInt32 31)).toInt32 &&& 255
theorem bf_4_c {g g' : Nat → Int32} {n : Nat} (hn : 0 < n) (h : ∀ j, j < n → g j = g' j) (a : Nat) : ∀ i, bf_4 g n a i = bf_4 g' n a i := by
  intro i
  induction i with
  | zero => rfl
  | succ i ih =>
    show (bf_4 g n a i <<< ((8 : Int32) &&& 31)) ||| g ((a + i) % n) = (bf_4 g' n a i <<< ((8 : Int32) &&& 31)) ||| g' ((a + i) % n)
    rw [ih, h _ (Nat.mod_lt _ hn)]
theorem bf_4_0 (n a : Nat) : ∀ i, bf_4 (fun _ => 0) n a i = 0 := by
  intro i
  induction i with
  | zero => rfl
  | succ i ih =>
    show (bf_4 (fun _ => 0) n a i <<< ((8 : Int32) &&& 31)) ||| 0 = 0
    rw [ih]
    decide
theorem bf_ws_0 : bf_ws (fun _ => 0) = bf_w0 := by
  funext k
  unfold bf_ws bf_w0
  rw [bf_4_0, bf_4_0]
theorem bf_ws_c {g g' : Nat → Int32} (h : ∀ j, j < 16 → g j = g' j) : bf_ws g = bf_ws g' := by
  funext k
  unfold bf_ws
  rw [bf_4_c (by decide) h, bf_4_c (by decide) h]
theorem bf_kf_c {g g' : Nat → Int32} {n : Nat} (hn : 0 < n) (h : ∀ j, j < n → g j = g' j) : bf_kf g n = bf_kf g' n := by
  funext i
  unfold bf_kf
  rw [bf_4_c hn h]
theorem bf_fin_c {g g' h h' : Nat → Int32} {n r : Nat} {T : Nat → Int32} (hn : 0 < n) (hg : ∀ j, j < n → g j = g' j) (hh : ∀ j, j < 16 → h j = h' j) : bf_fin g n h r T = bf_fin g' n h' r T := by
  unfold bf_fin
  rw [bf_kf_c hn hg, bf_kf_c (by decide) hh, bf_ws_c hh]
/-- the spread's run in the class's two parts -/
theorem bf_spr_2 (kf : Nat → Int32) (w : Nat → Int32 × Int32) (T : Nat → Int32) : bf_spr kf w T = (bf_run w 9 512 (bf_run w 0 9 (bf_key kf T, 0, 0))).1 := by
  unfold bf_spr
  rw [show 521 = 9 + 512 from rfl, bf_run_add]
theorem bf_md1 {a n : Nat} (h : a % n + 1 < n) : (a + 1) % n = a % n + 1 := by
  rw [Nat.add_mod, Nat.mod_eq_of_lt (show 1 < n by omega)]
  exact Nat.mod_eq_of_lt h
theorem bf_md0 {a n : Nat} (hn : 0 < n) (h : n ≤ a % n + 1) : (a + 1) % n = 0 := by
  have h1 := Nat.mod_lt a hn
  rcases Nat.lt_or_ge 1 n with h2 | h2
  · rw [Nat.add_mod, Nat.mod_eq_of_lt h2, show a % n + 1 = n by omega, Nat.mod_self]
  · rw [show n = 1 by omega]
    exact Nat.mod_one _
/-- the class's arrays behind initState -/
theorem bf_init (T fP fS : Nat → Int32) : bf_Ag (va_cpy T fP 0 0 18) (va_cpy (fun j => T (786 + j)) (va_cpy (fun j => T (530 + j)) (va_cpy (fun j => T (274 + j)) (va_cpy (fun j => T (18 + j)) fS 0 0 256) 0 256 256) 0 512 256) 0 768 256) T := by
  constructor
  · intro i hi
    rw [pk_cpy_in (by omega) (by omega), Nat.zero_add, Nat.sub_zero]
  · intro j hj
    rcases Nat.lt_or_ge j 256 with h | h
    · rw [pk_cpy_out (Or.inl (by omega)), pk_cpy_out (Or.inl (by omega)), pk_cpy_out (Or.inl (by omega)), pk_cpy_in (by omega) (by omega)]
      exact congrArg T (by omega)
    rcases Nat.lt_or_ge j 512 with h2 | h2
    · rw [pk_cpy_out (Or.inl (by omega)), pk_cpy_out (Or.inl (by omega)), pk_cpy_in (by omega) (by omega)]
      exact congrArg T (by omega)
    rcases Nat.lt_or_ge j 768 with h3 | h3
    · rw [pk_cpy_out (Or.inl (by omega)), pk_cpy_in (by omega) (by omega)]
      exact congrArg T (by omega)
    · rw [pk_cpy_in (by omega) (by omega)]
      exact congrArg T (by omega)
theorem bf_Ag.key {fP fS T u kf : Nat → Int32} (h : bf_Ag fP fS T) (hu : ∀ i, i < 18 → u i = fP i ^^^ kf i) : bf_Ag u fS (bf_key kf T) := by
  constructor
  · intro i hi
    show u i = if i < 18 then T i ^^^ kf i else T i
    rw [if_pos hi, hu i hi, h.1 i hi]
  · intro j hj
    show fS j = if 18 + j < 18 then T (18 + j) ^^^ kf (18 + j) else T (18 + j)
    rw [if_neg (by omega)]
    exact h.2 j hj
theorem bf_cxn {f fP kf : Nat → Int32} {i : Nat} {v : Int32} (hf : ∀ j, f j = if j < i then fP j ^^^ kf j else fP j) (hv : v = f i ^^^ kf i) : ∀ j, upd f i v j = if j < i + 1 then fP j ^^^ kf j else fP j := by
  intro j
  by_cases h : j = i
  · rw [h, pk_us, hv, hf i, if_neg (by omega), if_pos (by omega)]
  · rw [pk_un h, hf j]
    by_cases h2 : j < i
    · rw [if_pos h2, if_pos (by omega)]
    · rw [if_neg h2, if_neg (by omega)]
/-- the second part goes on from the halves that stand in P -/
theorem bf_join {w : Nat → Int32 × Int32} {q : (Nat → Int32) × Int32 × Int32} {fP fS : Nat → Int32} (h : bf_Ag fP fS (bf_run w 0 9 q).1) : ((bf_run w 0 9 q).1, fP 16, fP 17) = bf_run w 0 9 q := by
  rw [h.1 16 (by omega), h.1 17 (by omega), (bf_run_lr w q).1, (bf_run_lr w q).2]
theorem bf_spr_of {w : Nat → Int32 × Int32} {kf T fP fS f1 : Nat → Int32} (h : bf_Ag fP fS (bf_run w 0 9 (bf_key kf T, 0, 0)).1) (h2 : bf_Ag fP f1 (bf_run w 9 512 ((bf_run w 0 9 (bf_key kf T, 0, 0)).1, fP 16, fP 17)).1) : bf_Ag fP f1 (bf_spr kf w T) := by
  rw [bf_spr_2]
  rw [bf_join h] at h2
  exact h2
/-- the three blocks of the text: those before b have been locked once more -/
def bf_Tx (T M : Nat → Int32) (i b : Nat) (tf : Nat → Int32) : Prop := ∀ c, c < 3 → (tf (2 * c), tf (2 * c + 1)) = bf_encN T (if c < b then i + 1 else i) (M (2 * c), M (2 * c + 1))
theorem bf_Tx_start {T M tf : Nat → Int32} (h : ∀ m, m < 6 → tf m = M m) : bf_Tx T M 0 0 tf := by
  intro c hc
  rw [if_neg (by omega), h (2 * c) (by omega), h (2 * c + 1) (by omega)]
  rfl
theorem bf_Tx_next {T M tf : Nat → Int32} {i : Nat} (h : bf_Tx T M i 3 tf) : bf_Tx T M (i + 1) 0 tf := by
  intro c hc
  rw [h c hc, if_pos hc, if_neg (by omega)]
theorem bf_Tx_step {T M tf fP fS : Nat → Int32} {i b : Nat} {x1 x2 x3 : Int32} (h : bf_Tx T M i b tf) (hb : b < 3) (hA : bf_Ag fP fS T) (e1 : x1 = (bf_rds fP fS 16 (tf (2 * b), tf (2 * b + 1))).1 ^^^ fP 16) (e2 : x2 = (bf_rds fP fS 16 (tf (2 * b), tf (2 * b + 1))).2) (e3 : x3 = x2 ^^^ fP 17) : bf_Tx T M i (b + 1) (upd (upd tf (2 * b) x3) (2 * b + 1) x1) := by
  have hy : bf_enc T (bf_S T) (tf (2 * b), tf (2 * b + 1)) = (x3, x1) := by
    rw [← hA.enc, bf_enc, ← e1, ← e2, ← e3]
  intro c hc
  by_cases hcb : c = b
  · subst hcb
    rw [if_pos (by omega), pk_us, pk_un (by omega), pk_us, ← hy]
    show bf_enc T (bf_S T) (tf (2 * c), tf (2 * c + 1)) = bf_enc T (bf_S T) (bf_encN T i (M (2 * c), M (2 * c + 1)))
    rw [h c hc, if_neg (by omega)]
  · rw [pk_un (by omega), pk_un (by omega), pk_un (by omega), pk_un (by omega), h c hc]
    by_cases hlt : c < b
    · rw [if_pos hlt, if_pos (by omega)]
    · rw [if_neg hlt, if_neg (by omega)]
theorem bf_Tx_end {T M tf : Nat → Int32} (h : bf_Tx T M 64 0 tf) : ∀ m, m < 6 → tf m = bf_out T M m := by
  intro m hm
  have h1 := h (m / 2) (by omega)
  rw [if_neg (by omega)] at h1
  unfold bf_out
  by_cases he : m % 2 = 0
  · rw [if_pos he, ← h1]
    exact congrArg tf (by omega)
  · rw [if_neg he, ← h1]
    exact congrArg tf (by omega)
/-- the salt's words come round after two blocks -/
theorem bf_4_16 (g : Nat → Int32) (a : Nat) : ∀ i, bf_4 g 16 (a + 16) i = bf_4 g 16 a i := by
  intro i
  induction i with
  | zero => rfl
  | succ i ih =>
    show (bf_4 g 16 (a + 16) i <<< ((8 : Int32) &&& 31)) ||| g ((a + 16 + i) % 16) = (bf_4 g 16 a i <<< ((8 : Int32) &&& 31)) ||| g ((a + i) % 16)
    rw [ih, show (a + 16 + i) % 16 = (a + i) % 16 by omega]
theorem bf_ws_2 (g : Nat → Int32) (k : Nat) : bf_ws g (k + 2) = bf_ws g k := by
  unfold bf_ws
  rw [show 4 * (2 * (k + 2)) = 4 * (2 * k) + 16 by omega, show 4 * (2 * k) + 16 + 4 = (4 * (2 * k) + 4) + 16 by omega, bf_4_16, bf_4_16]
theorem bf_ws_ev (g : Nat → Int32) : ∀ k, bf_ws g (2 * k) = (bf_4 g 16 0 4, bf_4 g 16 4 4) := by
  intro k
  induction k with
  | zero => rfl
  | succ k ih => rw [show 2 * (k + 1) = 2 * k + 2 by omega, bf_ws_2, ih]
theorem bf_ws_od (g : Nat → Int32) : ∀ k, bf_ws g (2 * k + 1) = (bf_4 g 16 8 4, bf_4 g 16 12 4) := by
  intro k
  induction k with
  | zero => rfl
  | succ k ih => rw [show 2 * (k + 1) + 1 = 2 * k + 1 + 2 by omega, bf_ws_2, ih]

/-- the salt's words as the class holds them: once straight, once turned -/
theorem bf_ws_c1 {g w4 : Nat → Int32} (h : ∀ i, i < 4 → w4 i = bf_4 g 16 (4 * i) 4) : ∀ k, bf_ws g (2 * k) = (w4 0, w4 1) ∧ bf_ws g (2 * k + 1) = (w4 2, w4 3) := by
  intro k
  rw [bf_ws_ev, bf_ws_od, h 0 (by omega), h 1 (by omega), h 2 (by omega), h 3 (by omega)]
  exact ⟨rfl, rfl⟩
theorem bf_ws_c2 {g w4 f : Nat → Int32} (h : ∀ i, i < 4 → w4 i = bf_4 g 16 (4 * i) 4) (h0 : f 0 = w4 2) (h1 : f 1 = w4 3) (h2 : f 2 = w4 0) (h3 : f 3 = w4 1) : ∀ k, bf_ws g (2 * k + 9) = (f 0, f 1) ∧ bf_ws g (2 * k + 1 + 9) = (f 2, f 3) := by
  intro k
  rw [show 2 * k + 9 = 2 * (k + 4) + 1 by omega, show 2 * k + 1 + 9 = 2 * (k + 5) by omega, bf_ws_ev, bf_ws_od, h0, h1, h2, h3, h 0 (by omega), h 1 (by omega), h 2 (by omega), h 3 (by omega)]
  exact ⟨rfl, rfl⟩
/-- a number made small: (p & 2147483647) % d -/
def bf_md (p : Int32) (d : Nat) : Nat := p.toBitVec.toNat % 2 ^ 31 % d
theorem bf_md_lt (p : Int32) {d : Nat} (hd : 0 < d) : bf_md p d < d := Nat.mod_lt _ hd
theorem bf_md_e (p : Int32) (d : Nat) (hd : 0 < d) (hd2 : d < 2 ^ 31) : (p &&& 2147483647) - (p &&& 2147483647) / nI d * nI d = nI (bf_md p d) := by
  rw [pk_and p 31 (by decide)]
  exact pk_rem (Nat.mod_lt _ (by decide)) hd hd2
/-- the cost: 4 + (c & 1) -/
def bf_cs (c : Int32) : Nat := 4 + c.toBitVec.toNat % 2 ^ 1
theorem bf_cs_le (c : Int32) : 4 ≤ bf_cs c ∧ bf_cs c ≤ 5 := by
  unfold bf_cs
  omega
theorem bf_cs_e (c : Int32) : (4 : Int32) + (c &&& 1) = nI (bf_cs c) := by
  rw [pk_and c 1 (by decide)]
  exact nI_add 4 _
theorem bf_cs_r (c : Int32) : (1 : Int32) <<< (nI (bf_cs c) &&& 31) = nI (2 ^ bf_cs c) := by
  have h := bf_cs_le c
  generalize bf_cs c = z at h
  rcases (show z = 4 ∨ z = 5 by omega) with rfl | rfl <;> decide
theorem bf_cs_p (c : Int32) : 2 ^ bf_cs c < 2 ^ 30 := by
  have h := bf_cs_le c
  generalize bf_cs c = z at h
  rcases (show z = 4 ∨ z = 5 by omega) with rfl | rfl <;> decide
def bf_Mg : Nat → Int32 := fun i => match i with
  | 0 => 1332899944
  | 1 => 1700884034
  | 2 => 1701343084
  | 3 => 1684370003
  | 4 => 1668446532
  | _ => 1869963892
theorem bf_rd_nx {P S : Nat → Int32} {i : Nat} {q : Int32 × Int32} {yl yr v1 vt : Int32} (h1 : yl = (bf_rds P S i q).1) (h2 : yr = (bf_rds P S i q).2) (e1 : v1 = yl ^^^ P i) (e2 : vt = yr ^^^ bf_F S v1) : vt = (bf_rds P S (i + 1) q).1 ∧ v1 = (bf_rds P S (i + 1) q).2 := by
  subst e2 e1 h1 h2
  exact ⟨rfl, rfl⟩
theorem bf_keyx {f gt kf : Nat → Int32} (hf : ∀ j, f j = if j < 18 then gt j ^^^ kf j else gt j) : f = bf_key kf gt := funext hf
theorem bf_pin {f gt T : Nat → Int32} {i : Nat} (hf : ∀ j, f j = if j < i then T j else gt j) : ∀ j, upd f i (T i) j = if j < i + 1 then T j else gt j := by
  intro j
  by_cases h : j = i
  · rw [h, pk_us, if_pos (by omega)]
  · rw [pk_un h, hf j]
    by_cases h2 : j < i
    · rw [if_pos h2, if_pos (by omega)]
    · rw [if_neg h2, if_neg (by omega)]
theorem bf_run_nx {w : Nat → Int32 × Int32} {i : Nat} {q0 : (Nat → Int32) × Int32 × Int32} {T1 : Nat → Int32} {l1 r1 : Int32} (hq : bf_run w 0 i q0 = (T1, l1, r1)) : bf_run w 0 (i + 1) q0 = (upd (upd T1 (2 * i) (bf_enc T1 (bf_S T1) (l1 ^^^ (w i).1, r1 ^^^ (w i).2)).1) (2 * i + 1) (bf_enc T1 (bf_S T1) (l1 ^^^ (w i).1, r1 ^^^ (w i).2)).2, (bf_enc T1 (bf_S T1) (l1 ^^^ (w i).1, r1 ^^^ (w i).2)).1, (bf_enc T1 (bf_S T1) (l1 ^^^ (w i).1, r1 ^^^ (w i).2)).2) := by
  show bf_st w (i + 0) (bf_run w 0 i q0) = _
  rw [hq]
  rfl
/-- the answer's words, as the reference lays them -/
theorem bf_outm {T M : Nat → Int32} {b : Nat} {f g1 g2 : Nat → Int32} {l r : Int32} (hf : ∀ j, j < 8 * b → f j = bf_by (bf_out T M (j / 4)) (j % 4)) (hq : bf_encN T 64 (M (2 * b), M (2 * b + 1)) = (l, r)) (h1 : ∀ j, g1 j = if 8 * b ≤ j ∧ j < 8 * b + 4 then bf_by l (j - 8 * b) else f j) (h2 : ∀ j, g2 j = if 8 * b + 4 ≤ j ∧ j < 8 * b + 4 + 4 then bf_by r (j - (8 * b + 4)) else g1 j) : ∀ j, j < 8 * (b + 1) → g2 j = bf_by (bf_out T M (j / 4)) (j % 4) := by
  intro j hj
  rw [h2 j]
  by_cases a : 8 * b + 4 ≤ j ∧ j < 8 * b + 4 + 4
  · rw [if_pos a, show j / 4 = 2 * b + 1 by omega, show j % 4 = j - (8 * b + 4) by omega]
    unfold bf_out
    rw [if_neg (by omega), show (2 * b + 1) / 2 = b by omega, hq]
  · rw [if_neg a, h1 j]
    by_cases c : 8 * b ≤ j ∧ j < 8 * b + 4
    · rw [if_pos c, show j / 4 = 2 * b by omega, show j % 4 = j - 8 * b by omega]
      unfold bf_out
      rw [if_pos (by omega), show (2 * b) / 2 = b by omega, hq]
    · rw [if_neg c]
      exact hf j (by omega)
/-! BYTES AND WORDS -/
set_option maxRecDepth 100000
def bf_be (g : Nat → Int32) (o : Nat) : Int32 := (((g o <<< ((24 : Int32) &&& 31)) ||| ((g (o + 1) &&& 255) <<< ((16 : Int32) &&& 31))) ||| ((g (o + 2) &&& 255) <<< ((8 : Int32) &&& 31))) ||| (g (o + 3) &&& 255)
theorem bb_32 {P : Nat → Prop} (h0 : ∀ i, i < 8 → P i) (h1 : ∀ i, i < 8 → P (8 + i)) (h2 : ∀ i, i < 8 → P (16 + i)) (h3 : ∀ i, i < 8 → P (24 + i)) : ∀ i, i < 32 → P i := by
  intro i hi
  rcases Nat.lt_or_ge i 8 with a | a
  · exact h0 i a
  rcases Nat.lt_or_ge i 16 with b | b
  · have := h1 (i - 8) (by omega)
    rwa [show 8 + (i - 8) = i by omega] at this
  rcases Nat.lt_or_ge i 24 with c | c
  · have := h2 (i - 16) (by omega)
    rwa [show 16 + (i - 16) = i by omega] at this
  have := h3 (i - 24) (by omega)
  rwa [show 24 + (i - 24) = i by omega] at this
/-- four bytes: the class's way and the reference's -/
theorem bf_word (a b c d : Int32) : ((((a <<< ((24 : Int32) &&& 31)) ||| ((b &&& 255) <<< ((16 : Int32) &&& 31))) ||| ((c &&& 255) <<< ((8 : Int32) &&& 31))) ||| (d &&& 255)) = (((((((((0 : Int32) <<< ((8 : Int32) &&& 31)) ||| (a &&& 255)) <<< ((8 : Int32) &&& 31)) ||| (b &&& 255)) <<< ((8 : Int32) &&& 31)) ||| (c &&& 255)) <<< ((8 : Int32) &&& 31)) ||| (d &&& 255)) := by
  apply b_ext
  have key : ∀ (x : Int32) (i : Nat), i < 32 → bt (x <<< ((8 : Int32) &&& 31)) i = (decide (8 ≤ i) && bt x (i - 8)) := fun x i hi => b_shl8 x hi
  intro i hi
  simp only [b_or, b_and, b_255, b_shl24 _ hi, b_shl16 _ hi, key _ _ hi, key _ _ (show i - 8 < 32 by omega), key _ _ (show i - 8 - 8 < 32 by omega), key _ _ (show i - 8 - 8 - 8 < 32 by omega), b_0]
  rcases Nat.lt_or_ge i 8 with h | h
  · have e1 : decide (i < 8) = true := decide_eq_true h
    have e2 : decide (8 ≤ i) = false := decide_eq_false (by omega)
    have e3 : decide (16 ≤ i) = false := decide_eq_false (by omega)
    have e4 : decide (24 ≤ i) = false := decide_eq_false (by omega)
    simp [e1, e2, e3, e4]
  rcases Nat.lt_or_ge i 16 with h2 | h2
  · have e1 : decide (i < 8) = false := decide_eq_false (by omega)
    have e2 : decide (8 ≤ i) = true := decide_eq_true h
    have e3 : decide (16 ≤ i) = false := decide_eq_false (by omega)
    have e4 : decide (24 ≤ i) = false := decide_eq_false (by omega)
    have e5 : decide (i - 8 < 8) = true := decide_eq_true (by omega)
    have e6 : decide (8 ≤ i - 8) = false := decide_eq_false (by omega)
    simp [e1, e2, e3, e4, e5, e6]
  rcases Nat.lt_or_ge i 24 with h3 | h3
  · have e1 : decide (i < 8) = false := decide_eq_false (by omega)
    have e2 : decide (8 ≤ i) = true := decide_eq_true h
    have e3 : decide (16 ≤ i) = true := decide_eq_true h2
    have e4 : decide (24 ≤ i) = false := decide_eq_false (by omega)
    have e5 : decide (i - 8 < 8) = false := decide_eq_false (by omega)
    have e6 : decide (8 ≤ i - 8) = true := decide_eq_true (by omega)
    have e7 : decide (i - 8 - 8 < 8) = true := decide_eq_true (by omega)
    have e8 : decide (8 ≤ i - 8 - 8) = false := decide_eq_false (by omega)
    have e9 : decide (i - 16 < 8) = true := decide_eq_true (by omega)
    have ea : i - 8 - 8 = i - 16 := by omega
    rw [ea] at e7 e8
    rw [ea]
    simp [e1, e2, e3, e4, e5, e6, e7, e8]
  · have e1 : decide (i < 8) = false := decide_eq_false (by omega)
    have e2 : decide (8 ≤ i) = true := decide_eq_true h
    have e3 : decide (16 ≤ i) = true := decide_eq_true h2
    have e4 : decide (24 ≤ i) = true := decide_eq_true h3
    have e5 : decide (i - 8 < 8) = false := decide_eq_false (by omega)
    have e6 : decide (8 ≤ i - 8) = true := decide_eq_true (by omega)
    have e7 : decide (i - 16 < 8) = false := decide_eq_false (by omega)
    have e8 : decide (8 ≤ i - 16) = true := decide_eq_true (by omega)
    have e9 : decide (i - 24 < 8) = true := decide_eq_true (by omega)
    have ea : i - 8 - 8 = i - 16 := by omega
    have eb : i - 16 - 8 = i - 24 := by omega
    rw [ea, eb]
    simp [e1, e2, e3, e4, e5, e6, e7, e8, e9]
theorem bf_be_4 (g : Nat → Int32) {o : Nat} (ho : o + 3 < 16) : bf_be g o = bf_4 (fun j => g j &&& 255) 16 o 4 := by
  unfold bf_be
  rw [bf_word]
  show _ = (((((((((0 : Int32) <<< ((8 : Int32) &&& 31)) ||| (g ((o + 0) % 16) &&& 255)) <<< ((8 : Int32) &&& 31)) ||| (g ((o + 1) % 16) &&& 255)) <<< ((8 : Int32) &&& 31)) ||| (g ((o + 2) % 16) &&& 255)) <<< ((8 : Int32) &&& 31)) ||| (g ((o + 3) % 16) &&& 255))
  rw [Nat.mod_eq_of_lt (show o + 0 < 16 by omega), Nat.mod_eq_of_lt (show o + 1 < 16 by omega), Nat.mod_eq_of_lt (show o + 2 < 16 by omega), Nat.mod_eq_of_lt ho]
  rfl
theorem bf_nx {g u : Nat → Int32} {i : Nat} (hu : ∀ j, j < i → u j = bf_be g (4 * j)) : ∀ j, j < i + 1 → upd u i (bf_be g (4 * i)) j = bf_be g (4 * j) := by
  intro j hj
  by_cases h : j = i
  · rw [h, pk_us]
  · rw [pk_un h]
    exact hu j (by omega)
/-- a word laid into bytes: only the low eight bits are told -/
def bf_ld (x : Int32) (o : Nat) (g u : Nat → Int32) : Prop := ∀ j, u j &&& 255 = if o ≤ j ∧ j < o + 4 then bf_by x (j - o) else g j &&& 255
theorem bf_ld_of {x : Int32} {o : Nat} {g : Nat → Int32} {a b c d : Int32} (h0 : a &&& 255 = bf_by x 0) (h1 : b &&& 255 = bf_by x 1) (h2 : c &&& 255 = bf_by x 2) (h3 : d &&& 255 = bf_by x 3) : bf_ld x o g (upd (upd (upd (upd g o a) (o + 1) b) (o + 2) c) (o + 3) d) := by
  intro j
  by_cases e3 : j = o + 3
  · rw [e3, pk_us, if_pos (by omega), show o + 3 - o = 3 by omega, h3]
  rw [pk_un e3]
  by_cases e2 : j = o + 2
  · rw [e2, pk_us, if_pos (by omega), show o + 2 - o = 2 by omega, h2]
  rw [pk_un e2]
  by_cases e1 : j = o + 1
  · rw [e1, pk_us, if_pos (by omega), show o + 1 - o = 1 by omega, h1]
  rw [pk_un e1]
  by_cases e0 : j = o
  · rw [e0, pk_us, if_pos (by omega), show o - o = 0 by omega, h0]
  rw [pk_un e0, if_neg (by omega)]
theorem bf_ush0 (x : Int32) : (x.toUInt32 >>> ((nI 0).toUInt32 &&& Int32.toUInt32 31)).toInt32 = x := by
  apply b_ext
  intro i hi
  rw [b_ushr 0 (by omega), Nat.zero_add]
theorem bf_by_3 (x : Int32) : x &&& 255 = bf_by x 3 := by
  show _ = (x.toUInt32 >>> ((nI 0).toUInt32 &&& Int32.toUInt32 31)).toInt32 &&& 255
  rw [bf_ush0]
theorem bf_by_s (n : Nat) (hn : n ≤ 24) (x : Int32) : (x >>> (nI n &&& 31)) &&& 255 = (x.toUInt32 >>> ((nI n).toUInt32 &&& Int32.toUInt32 31)).toInt32 &&& 255 := by
  apply b_ext
  intro i hi
  rw [b_and, b_and, b_255]
  by_cases h : i < 8
  · rw [b_sshr n (by omega) x hi, if_pos (by omega), b_ushr n (by omega)]
  · rw [decide_eq_false h, Bool.and_false, Bool.and_false]
theorem bf_ld_u (x : Int32) (o : Nat) (g : Nat → Int32) : bf_ld x o g (upd (upd (upd (upd g o (vp_nar .byte ((x.toUInt32 >>> ((24 : Int32).toUInt32 &&& Int32.toUInt32 31)).toInt32).toInt8.toInt32)) (o + 1) (vp_nar .byte ((x.toUInt32 >>> ((16 : Int32).toUInt32 &&& Int32.toUInt32 31)).toInt32).toInt8.toInt32)) (o + 2) (vp_nar .byte ((x.toUInt32 >>> ((8 : Int32).toUInt32 &&& Int32.toUInt32 31)).toInt32).toInt8.toInt32)) (o + 3) (vp_nar .byte x.toInt8.toInt32)) :=
  bf_ld_of (by rw [pk_vb, bp_b]; rfl) (by rw [pk_vb, bp_b]; rfl) (by rw [pk_vb, bp_b]; rfl) (by rw [pk_vb, bp_b, bf_by_3])
theorem bf_ld_s (x : Int32) (o : Nat) (g : Nat → Int32) : bf_ld x o g (upd (upd (upd (upd g o (vp_nar .byte (x >>> ((24 : Int32) &&& 31)).toInt8.toInt32)) (o + 1) (vp_nar .byte (x >>> ((16 : Int32) &&& 31)).toInt8.toInt32)) (o + 2) (vp_nar .byte (x >>> ((8 : Int32) &&& 31)).toInt8.toInt32)) (o + 3) (vp_nar .byte x.toInt8.toInt32)) :=
  bf_ld_of (by rw [pk_vb, bp_b]; exact bf_by_s 24 (by omega) x) (by rw [pk_vb, bp_b]; exact bf_by_s 16 (by omega) x) (by rw [pk_vb, bp_b]; exact bf_by_s 8 (by omega) x) (by rw [pk_vb, bp_b, bf_by_3])
theorem bf_ld_nx {f u u1 : Nat → Int32} {i : Nat} (hu : ∀ j, j < 4 * i → u j &&& 255 = bf_by (f (j / 4)) (j % 4)) (hw : bf_ld (f i) (4 * i) u u1) : ∀ j, j < 4 * (i + 1) → u1 j &&& 255 = bf_by (f (j / 4)) (j % 4) := by
  intro j hj
  rw [hw j]
  by_cases h : 4 * i ≤ j ∧ j < 4 * i + 4
  · rw [if_pos h, show j / 4 = i by omega, show j % 4 = j - 4 * i by omega]
  · rw [if_neg h]
    exact hu j (by omega)
/-- a word laid into ints -/
def bf_lm (x : Int32) (o : Nat) (g u : Nat → Int32) : Prop := ∀ j, u j = if o ≤ j ∧ j < o + 4 then bf_by x (j - o) else g j
def bf_lmk (x : Int32) (o : Nat) (g : Nat → Int32) : Nat → Nat → Int32
  | 0 => g
  | i + 1 => upd (bf_lmk x o g i) (o + i) (bf_by x i)
theorem bf_lm_k (x : Int32) (o : Nat) (g : Nat → Int32) : bf_lm x o g (bf_lmk x o g 4) := by
  intro j
  show upd (upd (upd (upd g (o + 0) (bf_by x 0)) (o + 1) (bf_by x 1)) (o + 2) (bf_by x 2)) (o + 3) (bf_by x 3) j = _
  by_cases e3 : j = o + 3
  · rw [e3, pk_us, if_pos (by omega), show o + 3 - o = 3 by omega]
  rw [pk_un e3]
  by_cases e2 : j = o + 2
  · rw [e2, pk_us, if_pos (by omega), show o + 2 - o = 2 by omega]
  rw [pk_un e2]
  by_cases e1 : j = o + 1
  · rw [e1, pk_us, if_pos (by omega), show o + 1 - o = 1 by omega]
  rw [pk_un e1]
  by_cases e0 : j = o + 0
  · rw [e0, pk_us, if_pos (by omega), show o + 0 - o = 0 by omega]
  rw [pk_un e0, if_neg (by omega)]
/-- the class's bytes and the reference's ints -/
def bf_By (n : Nat) (g h : Nat → Int32) : Prop := ∀ j, j < n → h j = g j &&& 255
theorem bf_By.lay {n o : Nat} {x : Int32} {g h g1 h1 : Nat → Int32} (hB : bf_By n g h) (hg : bf_ld x o g g1) (hh : bf_lm x o h h1) : bf_By n g1 h1 := by
  intro j hj
  rw [hg j, hh j]
  by_cases e : o ≤ j ∧ j < o + 4
  · rw [if_pos e, if_pos e]
  · rw [if_neg e, if_neg e]
    exact hB j hj
def bf_ld3 (a b c : Int32) (o : Nat) (g u : Nat → Int32) : Prop := ∃ g1 g2, bf_ld a o g g1 ∧ bf_ld b (o + 4) g1 g2 ∧ bf_ld c (o + 8) g2 u
def bf_lm3 (a b c : Int32) (o : Nat) (g u : Nat → Int32) : Prop := ∃ g1 g2, bf_lm a o g g1 ∧ bf_lm b (o + 4) g1 g2 ∧ bf_lm c (o + 8) g2 u
def bf_ld4 (a b c d : Int32) (g u : Nat → Int32) : Prop := ∃ g1 g2 g3, bf_ld a 0 g g1 ∧ bf_ld b 4 g1 g2 ∧ bf_ld c 8 g2 g3 ∧ bf_ld d 12 g3 u
def bf_lm4 (a b c d : Int32) (g u : Nat → Int32) : Prop := ∃ g1 g2 g3, bf_lm a 0 g g1 ∧ bf_lm b 4 g1 g2 ∧ bf_lm c 8 g2 g3 ∧ bf_lm d 12 g3 u
theorem bf_By.lay3 {n o : Nat} {a b c : Int32} {g h g1 h1 : Nat → Int32} (hB : bf_By n g h) (hg : bf_ld3 a b c o g g1) (hh : bf_lm3 a b c o h h1) : bf_By n g1 h1 := by
  obtain ⟨x1, x2, p1, p2, p3⟩ := hg
  obtain ⟨y1, y2, q1, q2, q3⟩ := hh
  exact ((hB.lay p1 q1).lay p2 q2).lay p3 q3
theorem bf_By.lay4 {n : Nat} {a b c d : Int32} {g h g1 h1 : Nat → Int32} (hB : bf_By n g h) (hg : bf_ld4 a b c d g g1) (hh : bf_lm4 a b c d h h1) : bf_By n g1 h1 := by
  obtain ⟨x1, x2, x3, p1, p2, p3, p4⟩ := hg
  obtain ⟨y1, y2, y3, q1, q2, q3, q4⟩ := hh
  exact (((hB.lay p1 q1).lay p2 q2).lay p3 q3).lay p4 q4
theorem bf_cpn {f fw : Nat → Int32} {i : Nat} (hf : ∀ j, j < i → f j &&& 255 = fw j &&& 255) : ∀ j, j < i + 1 → upd f i (vp_nar .byte (fw i)) j &&& 255 = fw j &&& 255 := by
  intro j hj
  by_cases h : j = i
  · rw [h, pk_us, vp_nar_byte, bp_b]
  · rw [pk_un h]
    exact hf j (by omega)
end
section
/-! LEAVES: the round function, the four bytes, Pack, fill, lay -/
set_option maxHeartbeats 4000000 in
set_option maxRecDepth 100000 in
/-- BCrypt.F -/
theorem met_F (l : Launch) (dC : Nat → ClassId) (dI : Nat → Nat → Nat) (cI cB : ClassId) (h0 aS aP : Nat) (fS : Nat → Int32) (x : Int32) : Met l yX2_F (ws_ yX2_F cX2_F 2 (some .int)) ({ frames := 0, cells := 0, slots := 0, locals := 0 } : Room) (cx_Pp (dC, dI) (tyL cI cB) [.ref h0, .int x] [(h0, .inr (2, [.ref aS, .ref aP])), aI cI aS 1024 fS]) (vp_Si (fun r => r = bf_F fS x)) 0 0 (fun _ => False) := by
  refine Met.ofW (cc := cX2_F) (maxL := 2) (ret := (some .int)) (by decide) rfl ?_
  intro p e s m args below meth c s₁ B hml hv
  obtain ⟨rfl, hP, hK⟩ := hv
  have hx := B.exec
  have hb := B.bytes
  have hr := B.returns
  have hts := atoms_spec (ws := (ws_ yX2_F cX2_F 2 (some .int))) B.pre
  have hts : ∀ w ∈ lw_all, w.before _ s = true := fun w h => hts w (List.mem_cons_of_mem _ h)
  have hown : s.vm.findClass RX2 = some m.cls := findClass_of_methodNamed B.named
  have hlocks := B.notSynchronized
  refine cx_Q (fun Q hQe => ?_)
  have hP : va_P (dC, dI) vwCl [(h0, .inr (2, [.ref aS, .ref aP])), aI cI aS 1024 fS] s.heap := hP
  have hl := lv_entry ([.ref h0, .int x]) (n := 2) (Nat.le_of_ble_eq_true rfl)
  rw [lg_entry_eq]
  generalize (lg_sl ([.ref h0, .int x]) ++ List.replicate (2 - (lg_sl ([.ref h0, .int x])).length) Slot.unset).toArray = ls at hl ⊢
  have hl : lv_has ls 2 [(0, .ref h0), (1, .int x)] := hl
  refine lv_aload_n hx hb dX2_F_0 rfl (lv_at hl 0 rfl) ?_
  refine va_get (D := (dC, dI)) (ci := 2) (v := .ref aS) (C := RX2) (T := TX2) (N := 2) hx hb hts in_X2 hown hK hP 0 rfl rfl 0 (by decide) (hts _ q150) (fun _ h9 => h9) rfl dX2_F_1 ?_
  refine lv_iload_n hx hb dX2_F_4 rfl (lv_at hl 1 rfl) ?_
  refine lv_bipush (v := 24) hx hb dX2_F_5 (by decide) ?_
  refine lv_iushr hx hb dX2_F_7 rfl ?_
  refine cx_top (nI (bb3 x)) (ix3 x) ?_
  refine cx_iald hx hb hK hP 1 0 rfl rfl (bb3 x) (rfl) (by have := bb3_lt x; omega) (by decide) dX2_F_8 ?_
  refine lv_aload_n hx hb dX2_F_9 rfl (lv_at hl 0 rfl) ?_
  refine va_get (D := (dC, dI)) (ci := 2) (v := .ref aS) (C := RX2) (T := TX2) (N := 2) hx hb hts in_X2 hown hK hP 0 rfl rfl 0 (by decide) (hts _ q150) (fun _ h9 => h9) rfl dX2_F_10 ?_
  refine lv_sipush (v := 256) hx hb dX2_F_13 (by decide) ?_
  refine lv_iload_n hx hb dX2_F_16 rfl (lv_at hl 1 rfl) ?_
  refine lv_bipush (v := 16) hx hb dX2_F_17 (by decide) ?_
  refine lv_iushr hx hb dX2_F_19 rfl ?_
  refine lv_sipush (v := 255) hx hb dX2_F_20 (by decide) ?_
  refine lv_iand hx hb dX2_F_23 ?_
  refine lv_iadd hx hb dX2_F_24 ?_
  refine cx_top (nI (256 + bb2 x)) (by rw [ix2]; exact nI_add 256 (bb2 x)) ?_
  refine cx_iald hx hb hK hP 1 0 rfl rfl (256 + bb2 x) (rfl) (by have := bb2_lt x; omega) (by decide) dX2_F_25 ?_
  refine lv_iadd hx hb dX2_F_26 ?_
  refine lv_aload_n hx hb dX2_F_27 rfl (lv_at hl 0 rfl) ?_
  refine va_get (D := (dC, dI)) (ci := 2) (v := .ref aS) (C := RX2) (T := TX2) (N := 2) hx hb hts in_X2 hown hK hP 0 rfl rfl 0 (by decide) (hts _ q150) (fun _ h9 => h9) rfl dX2_F_28 ?_
  refine lv_sipush (v := 512) hx hb dX2_F_31 (by decide) ?_
  refine lv_iload_n hx hb dX2_F_34 rfl (lv_at hl 1 rfl) ?_
  refine lv_bipush (v := 8) hx hb dX2_F_35 (by decide) ?_
  refine lv_iushr hx hb dX2_F_37 rfl ?_
  refine lv_sipush (v := 255) hx hb dX2_F_38 (by decide) ?_
  refine lv_iand hx hb dX2_F_41 ?_
  refine lv_iadd hx hb dX2_F_42 ?_
  refine cx_top (nI (512 + bb1 x)) (by rw [ix1]; exact nI_add 512 (bb1 x)) ?_
  refine cx_iald hx hb hK hP 1 0 rfl rfl (512 + bb1 x) (rfl) (by have := bb1_lt x; omega) (by decide) dX2_F_43 ?_
  refine lv_ixor hx hb dX2_F_44 ?_
  refine lv_aload_n hx hb dX2_F_45 rfl (lv_at hl 0 rfl) ?_
  refine va_get (D := (dC, dI)) (ci := 2) (v := .ref aS) (C := RX2) (T := TX2) (N := 2) hx hb hts in_X2 hown hK hP 0 rfl rfl 0 (by decide) (hts _ q150) (fun _ h9 => h9) rfl dX2_F_46 ?_
  refine lv_sipush (v := 768) hx hb dX2_F_49 (by decide) ?_
  refine lv_iload_n hx hb dX2_F_52 rfl (lv_at hl 1 rfl) ?_
  refine lv_sipush (v := 255) hx hb dX2_F_53 (by decide) ?_
  refine lv_iand hx hb dX2_F_56 ?_
  refine lv_iadd hx hb dX2_F_57 ?_
  refine cx_top (nI (768 + bb0 x)) (by rw [ix0]; exact nI_add 768 (bb0 x)) ?_
  refine cx_iald hx hb hK hP 1 0 rfl rfl (768 + bb0 x) (rfl) (by have := bb0_lt x; omega) (by decide) dX2_F_58 ?_
  refine lv_iadd hx hb dX2_F_59 ?_
  refine cx_top (bf_F fS x) (rfl) ?_
  subst hQe
  exact W.iret (v := bf_F fS x) hx hb hr (fun t ht hW => ⟨_, rfl, rfl, ht⟩) (fun q h => by cases h) dX2_F_60
set_option maxHeartbeats 4000000 in
set_option maxRecDepth 100000 in
/-- CryptDeskModel.four -/
theorem met_four (l : Launch) (dC : Nat → ClassId) (dI : Nat → Nat → Nat) (cI cB : ClassId) (hg N n a : Nat) (g : Nat → Int32) (hn : 0 < n) (hnN : n ≤ N) (hN : N < 2 ^ 30) (ha : a < 2 ^ 30) : Met l yX1_four (ws_ yX1_four cX1_four 5 (some .int)) ({ frames := 0, cells := 0, slots := 0, locals := 0 } : Room) (cx_Pp (dC, dI) (tyL cI cB) [.ref hg, .int (nI n), .int (nI a)] [aI cI hg N g]) (vp_Si (fun r => r = bf_4 g n a 4)) 0 0 (fun _ => False) := by
  refine Met.ofW (cc := cX1_four) (maxL := 5) (ret := (some .int)) (by decide) rfl ?_
  intro p e s m args below meth c s₁ B hml hv
  obtain ⟨rfl, hP, hK⟩ := hv
  have hx := B.exec
  have hb := B.bytes
  have hr := B.returns
  have hts := atoms_spec (ws := (ws_ yX1_four cX1_four 5 (some .int))) B.pre
  have hts : ∀ w ∈ lw_all, w.before _ s = true := fun w h => hts w (List.mem_cons_of_mem _ h)
  have hown : s.vm.findClass RX1 = some m.cls := findClass_of_methodNamed B.named
  have hlocks := B.notSynchronized
  refine cx_Q (fun Q hQe => ?_)
  have hP : va_P (dC, dI) vwCl [aI cI hg N g] s.heap := hP
  have hl := lv_entry ([.ref hg, .int (nI n), .int (nI a)]) (n := 5) (Nat.le_of_ble_eq_true rfl)
  rw [lg_entry_eq]
  generalize (lg_sl ([.ref hg, .int (nI n), .int (nI a)]) ++ List.replicate (5 - (lg_sl ([.ref hg, .int (nI n), .int (nI a)])).length) Slot.unset).toArray = ls at hl ⊢
  have hl : lv_has ls 5 [(0, .ref hg), (1, .int (nI n)), (2, .int (nI a))] := hl
  refine lv_iconst (v := nI 0) hx hb dX1_four_0 (by decide) ?_
  refine lv_istore_n (lv' := [(3, .int (nI 0)), (0, .ref hg), (1, .int (nI n)), (2, .int (nI a))]) hx hb dX1_four_1 rfl hl (by decide) rfl (fun ls hl => ?_)
  refine lv_iconst (v := nI 0) hx hb dX1_four_2 (by decide) ?_
  refine lv_istore (lv' := [(4, .int (nI 0)), (3, .int (nI 0)), (0, .ref hg), (1, .int (nI n)), (2, .int (nI a))]) hx hb dX1_four_3 hl (by decide) rfl (fun ls hl => ?_)
  have loop : ∀ (k i : Nat), i + k = 4 → ∀ ls : Array Slot, lv_has ls 5 [(0, .ref hg), (1, .int (nI n)), (2, .int (nI a)), (3, .int (bf_4 g n a i)), (4, .int (nI i))] → W p l e (headSpec (ws_ yX1_four cX1_four 5 (some .int)) ({ frames := 0, cells := 0, slots := 0, locals := 0 } : Room)).room s m ([.ref hg, .int (nI n), .int (nI a)] : List Value).toArray below meth c s.heap [] 0 0 Q (F0 m 5 ls []) := by
    intro k
    induction k with
    | zero =>
      intro i hi ls hl
      have hi4 : i = 4 := by omega
      refine lv_iload hx hb dX1_four_5 (lv_at hl 4 rfl) ?_
      refine lv_iconst (v := nI 4) hx hb dX1_four_7 (by decide) ?_
      refine lv_icmp_ge (tgt := 31) hx hb dX1_four_8 (by decide) (fun _ => ?_) (fun c9 => absurd (nI_le (by omega) (by omega)) c9)
      refine lv_iload_n hx hb dX1_four_31 rfl (lv_at hl 3 rfl) ?_
      subst hi4
      subst hQe
      exact W.iret (v := bf_4 g n a 4) hx hb hr (fun t ht hW => ⟨_, rfl, rfl, ht⟩) (fun q h => by cases h) dX1_four_32
    | succ k ih =>
      intro i hi ls hl
      refine lv_iload hx hb dX1_four_5 (lv_at hl 4 rfl) ?_
      refine lv_iconst (v := nI 4) hx hb dX1_four_7 (by decide) ?_
      refine lv_icmp_ge (tgt := 31) hx hb dX1_four_8 (by decide) (fun c9 => absurd c9 (nI_ge (by omega) (by omega))) (fun _ => ?_)
      refine lv_iload_n hx hb dX1_four_11 rfl (lv_at hl 3 rfl) ?_
      refine lv_bipush (v := 8) hx hb dX1_four_12 (by decide) ?_
      refine lv_ishl hx hb dX1_four_14 ?_
      refine lv_aload_n hx hb dX1_four_15 rfl (lv_at hl 0 rfl) ?_
      refine lv_iload_n hx hb dX1_four_16 rfl (lv_at hl 2 rfl) ?_
      refine lv_iload hx hb dX1_four_17 (lv_at hl 4 rfl) ?_
      refine lv_iadd hx hb dX1_four_19 ?_
      refine lv_iload_n hx hb dX1_four_20 rfl (lv_at hl 1 rfl) ?_
      refine lv_irem hx hb dX1_four_21 (nI_ne0 hn (by omega)) ?_
      refine cx_top (nI ((a + i) % n)) (by rw [nI_add]; exact pk_rem (by omega) hn (by omega)) ?_
      refine cx_iald hx hb hK hP 0 0 rfl rfl ((a + i) % n) (rfl) (Nat.lt_of_lt_of_le (Nat.mod_lt _ hn) hnN) (by omega) dX1_four_22 ?_
      refine lv_ior hx hb dX1_four_23 ?_
      refine cx_top (bf_4 g n a (i + 1)) (rfl) ?_
      refine lv_istore_n (lv' := [(3, .int (bf_4 g n a (i + 1))), (0, .ref hg), (1, .int (nI n)), (2, .int (nI a)), (4, .int (nI i))]) hx hb dX1_four_24 rfl hl (by decide) rfl (fun ls hl => ?_)
      refine lv_iinc (v := nI (i + 1)) (lv' := [(4, .int (nI (i + 1))), (3, .int (bf_4 g n a (i + 1))), (0, .ref hg), (1, .int (nI n)), (2, .int (nI a))]) hx hb dX1_four_25 hl (k := 4) rfl (nI_1 i) (by decide) rfl (fun ls hl => ?_)
      refine lv_goto (tgt := 5) hx hb dX1_four_28 (by decide) ?_
      exact ih (i + 1) (by omega) ls (lv_sub hl [2, 3, 4, 1, 0] rfl)
  exact loop 4 0 (by omega) ls (lv_sub hl [2, 3, 4, 1, 0] rfl)
set_option maxHeartbeats 4000000 in
set_option maxRecDepth 100000 in
/-- Pack.bigEndianToInt(byte[], int) -/
theorem met_b2i (l : Launch) (dC : Nat → ClassId) (dI : Nat → Nat → Nat) (cI cB : ClassId) (hg N o : Nat) (g : Nat → Int32) (ho : o + 3 < N) (hN : N < 2 ^ 30) : Met l yX6_bigEndianToInt_2 (ws_ yX6_bigEndianToInt_2 cX6_bigEndianToInt_2 3 (some .int)) ({ frames := 0, cells := 0, slots := 0, locals := 0 } : Room) (cx_Pp (dC, dI) (tyL cI cB) [.ref hg, .int (nI o)] [aI cB hg N g]) (vp_Si (fun r => r = bf_be g o)) 0 0 (fun _ => False) := by
  refine Met.ofW (cc := cX6_bigEndianToInt_2) (maxL := 3) (ret := (some .int)) (by decide) rfl ?_
  intro p e s m args below meth c s₁ B hml hv
  obtain ⟨rfl, hP, hK⟩ := hv
  have hx := B.exec
  have hb := B.bytes
  have hr := B.returns
  have hts := atoms_spec (ws := (ws_ yX6_bigEndianToInt_2 cX6_bigEndianToInt_2 3 (some .int))) B.pre
  have hts : ∀ w ∈ lw_all, w.before _ s = true := fun w h => hts w (List.mem_cons_of_mem _ h)
  have hown : s.vm.findClass RX6 = some m.cls := findClass_of_methodNamed B.named
  have hlocks := B.notSynchronized
  refine cx_Q (fun Q hQe => ?_)
  have hP : va_P (dC, dI) vwCl [aI cB hg N g] s.heap := hP
  have hl := lv_entry ([.ref hg, .int (nI o)]) (n := 3) (Nat.le_of_ble_eq_true rfl)
  rw [lg_entry_eq]
  generalize (lg_sl ([.ref hg, .int (nI o)]) ++ List.replicate (3 - (lg_sl ([.ref hg, .int (nI o)])).length) Slot.unset).toArray = ls at hl ⊢
  have hl : lv_has ls 3 [(0, .ref hg), (1, .int (nI o))] := hl
  refine lv_aload_n hx hb dX6_bigEndianToInt_2_0 rfl (lv_at hl 0 rfl) ?_
  refine lv_iload_n hx hb dX6_bigEndianToInt_2_1 rfl (lv_at hl 1 rfl) ?_
  refine cx_bald hx hb hK hP 0 1 rfl rfl (o) (rfl) (by omega) (by omega) dX6_bigEndianToInt_2_2 ?_
  refine lv_bipush (v := 24) hx hb dX6_bigEndianToInt_2_3 (by decide) ?_
  refine lv_ishl hx hb dX6_bigEndianToInt_2_5 ?_
  refine lv_istore_n (lv' := [(2, .int ((g o) <<< (24 &&& 31))), (0, .ref hg), (1, .int (nI o))]) hx hb dX6_bigEndianToInt_2_6 rfl hl (by decide) rfl (fun ls hl => ?_)
  refine lv_iload_n hx hb dX6_bigEndianToInt_2_7 rfl (lv_at hl 0 rfl) ?_
  refine lv_aload_n hx hb dX6_bigEndianToInt_2_8 rfl (lv_at hl 1 rfl) ?_
  refine lv_iinc (v := nI (o + 1)) (lv' := [(1, .int (nI (o + 1))), (2, .int ((g o) <<< (24 &&& 31))), (0, .ref hg)]) hx hb dX6_bigEndianToInt_2_9 hl (k := 2) rfl (nI_1 o) (by decide) rfl (fun ls hl => ?_)
  refine lv_iload_n hx hb dX6_bigEndianToInt_2_12 rfl (lv_at hl 0 rfl) ?_
  refine cx_bald hx hb hK hP 0 1 rfl rfl ((o + 1)) (rfl) (by omega) (by omega) dX6_bigEndianToInt_2_13 ?_
  refine lv_sipush (v := 255) hx hb dX6_bigEndianToInt_2_14 (by decide) ?_
  refine lv_iand hx hb dX6_bigEndianToInt_2_17 ?_
  refine lv_bipush (v := 16) hx hb dX6_bigEndianToInt_2_18 (by decide) ?_
  refine lv_ishl hx hb dX6_bigEndianToInt_2_20 ?_
  refine lv_ior hx hb dX6_bigEndianToInt_2_21 ?_
  refine lv_istore_n (lv' := [(2, .int (((g o) <<< (24 &&& 31)) ||| (((g (o + 1)) &&& 255) <<< (16 &&& 31)))), (1, .int (nI (o + 1))), (0, .ref hg)]) hx hb dX6_bigEndianToInt_2_22 rfl hl (by decide) rfl (fun ls hl => ?_)
  refine lv_iload_n hx hb dX6_bigEndianToInt_2_23 rfl (lv_at hl 0 rfl) ?_
  refine lv_aload_n hx hb dX6_bigEndianToInt_2_24 rfl (lv_at hl 2 rfl) ?_
  refine lv_iinc (v := nI (o + 2)) (lv' := [(1, .int (nI (o + 2))), (2, .int (((g o) <<< (24 &&& 31)) ||| (((g (o + 1)) &&& 255) <<< (16 &&& 31)))), (0, .ref hg)]) hx hb dX6_bigEndianToInt_2_25 hl (k := 1) rfl (nI_1 (o + 1)) (by decide) rfl (fun ls hl => ?_)
  refine lv_iload_n hx hb dX6_bigEndianToInt_2_28 rfl (lv_at hl 0 rfl) ?_
  refine cx_bald hx hb hK hP 0 1 rfl rfl ((o + 2)) (rfl) (by omega) (by omega) dX6_bigEndianToInt_2_29 ?_
  refine lv_sipush (v := 255) hx hb dX6_bigEndianToInt_2_30 (by decide) ?_
  refine lv_iand hx hb dX6_bigEndianToInt_2_33 ?_
  refine lv_bipush (v := 8) hx hb dX6_bigEndianToInt_2_34 (by decide) ?_
  refine lv_ishl hx hb dX6_bigEndianToInt_2_36 ?_
  refine lv_ior hx hb dX6_bigEndianToInt_2_37 ?_
  refine lv_istore_n (lv' := [(2, .int ((((g o) <<< (24 &&& 31)) ||| (((g (o + 1)) &&& 255) <<< (16 &&& 31))) ||| (((g (o + 2)) &&& 255) <<< (8 &&& 31)))), (1, .int (nI (o + 2))), (0, .ref hg)]) hx hb dX6_bigEndianToInt_2_38 rfl hl (by decide) rfl (fun ls hl => ?_)
  refine lv_iload_n hx hb dX6_bigEndianToInt_2_39 rfl (lv_at hl 0 rfl) ?_
  refine lv_aload_n hx hb dX6_bigEndianToInt_2_40 rfl (lv_at hl 2 rfl) ?_
  refine lv_iinc (v := nI (o + 3)) (lv' := [(1, .int (nI (o + 3))), (2, .int ((((g o) <<< (24 &&& 31)) ||| (((g (o + 1)) &&& 255) <<< (16 &&& 31))) ||| (((g (o + 2)) &&& 255) <<< (8 &&& 31)))), (0, .ref hg)]) hx hb dX6_bigEndianToInt_2_41 hl (k := 1) rfl (nI_1 (o + 2)) (by decide) rfl (fun ls hl => ?_)
  refine lv_iload_n hx hb dX6_bigEndianToInt_2_44 rfl (lv_at hl 0 rfl) ?_
  refine cx_bald hx hb hK hP 0 1 rfl rfl ((o + 3)) (rfl) (by omega) (by omega) dX6_bigEndianToInt_2_45 ?_
  refine lv_sipush (v := 255) hx hb dX6_bigEndianToInt_2_46 (by decide) ?_
  refine lv_iand hx hb dX6_bigEndianToInt_2_49 ?_
  refine lv_ior hx hb dX6_bigEndianToInt_2_50 ?_
  refine lv_istore_n (lv' := [(2, .int (((((g o) <<< (24 &&& 31)) ||| (((g (o + 1)) &&& 255) <<< (16 &&& 31))) ||| (((g (o + 2)) &&& 255) <<< (8 &&& 31))) ||| ((g (o + 3)) &&& 255))), (1, .int (nI (o + 3))), (0, .ref hg)]) hx hb dX6_bigEndianToInt_2_51 rfl hl (by decide) rfl (fun ls hl => ?_)
  refine lv_iload_n hx hb dX6_bigEndianToInt_2_52 rfl (lv_at hl 0 rfl) ?_
  refine cx_top (bf_be g o) (rfl) ?_
  subst hQe
  exact W.iret (v := bf_be g o) hx hb hr (fun t ht hW => ⟨_, rfl, rfl, ht⟩) (fun q h => by cases h) dX6_bigEndianToInt_2_53
set_option maxHeartbeats 4000000 in
set_option maxRecDepth 100000 in
/-- Pack.bigEndianToInt(byte[], int, int[]) -/
theorem met_b2i4 (l : Launch) (dC : Nat → ClassId) (dI : Nat → Nat → Nat) (cI cB : ClassId) (hg hn : Nat) (g f : Nat → Int32) (sz : Nat) : Met l yX6_bigEndianToInt (ws_ yX6_bigEndianToInt cX6_bigEndianToInt 4 none) ({ frames := 1, cells := 0, slots := 0, locals := 22 } : Room) (cx_Pre (dC, dI) (tyL cI cB) [.ref hg, .int (nI 0), .ref hn] [aI cB hg 16 g, aI cI hn 4 f] sz cx_No) (cx_Qv (S := Nat → Int32) (dC, dI) [aI cB hg 16 g, aI cI hn 4 f] sz (fun u => ∀ i, i < 4 → u i = bf_be g (4 * i)) (fun u => [aI cB hg 16 g, aI cI hn 4 u])) 0 0 (va_A [aI cB hg 16 g, aI cI hn 4 f] sz) := by
  refine Met.ofW (cc := cX6_bigEndianToInt) (maxL := 4) (ret := none) (by decide) rfl ?_
  intro p e s m args below meth c s₁ B hml hv
  obtain ⟨rfl, hsz, hP, hK, hD0, hE⟩ := hv
  have hx := B.exec
  have hb := B.bytes
  have hr := B.returns
  have hts := atoms_spec (ws := (ws_ yX6_bigEndianToInt cX6_bigEndianToInt 4 none)) B.pre
  have hts : ∀ w ∈ lw_all, w.before _ s = true := fun w h => hts w (List.mem_cons_of_mem _ h)
  have hown : s.vm.findClass RX6 = some m.cls := findClass_of_methodNamed B.named
  have hlocks := B.notSynchronized
  subst hsz
  obtain ⟨A, hAe⟩ : ∃ A : Nat → Prop, A = va_A [aI cB hg 16 g, aI cI hn 4 f] s.heap.size := ⟨_, rfl⟩
  have hD : va_D A [aI cB hg 16 g, aI cI hn 4 f] := by rw [hAe]; exact hD0.self
  have hA : ∀ q : Nat, s.heap.size ≤ q → A q := fun q h => by rw [hAe]; exact Or.inr h
  have hS : va_S A s.heap s.heap [] := va_S.rf
  refine cx_Q (fun Q hQe => ?_)
  have hP : va_P (dC, dI) vwCl [aI cB hg 16 g, aI cI hn 4 f] s.heap := hP
  have hl := lv_entry ([.ref hg, .int (nI 0), .ref hn]) (n := 4) (Nat.le_of_ble_eq_true rfl)
  rw [lg_entry_eq]
  generalize (lg_sl ([.ref hg, .int (nI 0), .ref hn]) ++ List.replicate (4 - (lg_sl ([.ref hg, .int (nI 0), .ref hn])).length) Slot.unset).toArray = ls at hl ⊢
  have hl : lv_has ls 4 [(0, .ref hg), (1, .int (nI 0)), (2, .ref hn)] := hl
  refine lv_iconst (v := nI 0) hx hb dX6_bigEndianToInt_0 (by decide) ?_
  refine lv_istore_n (lv' := [(3, .int (nI 0)), (0, .ref hg), (1, .int (nI 0)), (2, .ref hn)]) hx hb dX6_bigEndianToInt_1 rfl hl (by decide) rfl (fun ls hl => ?_)
  have loop : ∀ (k i : Nat), i + k = 4 → ∀ (u : Nat → Int32) (H : Heap) (locs : List Loc) (ls : Array Slot), (∀ j, j < i → u j = bf_be g (4 * j)) → va_P (dC, dI) vwCl [aI cB hg 16 g, aI cI hn 4 u] H → va_D A [aI cB hg 16 g, aI cI hn 4 u] → va_S A s.heap H locs → lv_has ls 4 [(0, .ref hg), (1, .int (nI (4 * i))), (2, .ref hn), (3, .int (nI i))] → W p l e (headSpec (ws_ yX6_bigEndianToInt cX6_bigEndianToInt 4 none) ({ frames := 1, cells := 0, slots := 0, locals := 22 } : Room)).room s m ([.ref hg, .int (nI 0), .ref hn] : List Value).toArray below meth c H locs 0 0 Q (F0 m 2 ls []) := by
    intro k
    induction k with
    | zero =>
      intro i hi u H locs ls hu hP hD hS hl
      refine lv_iload_n hx hb dX6_bigEndianToInt_2 rfl (lv_at hl 3 rfl) ?_
      refine lv_aload_n hx hb dX6_bigEndianToInt_3 rfl (lv_at hl 2 rfl) ?_
      refine va_alen (v := nI 4) hx hb hK hP 1 0 rfl rfl rfl dX6_bigEndianToInt_4 ?_
      refine lv_icmp_ge (tgt := 25) hx hb dX6_bigEndianToInt_5 (by decide) (fun _ => ?_) (fun c9 => absurd (nI_le (by omega) (by omega)) c9)
      subst hQe
      subst hAe
      exact W.vret hx hb hr (fun t ht hW => ⟨⟨u, rfl, fun j hj => hu j (by omega), by rw [ht]; exact hP.sub [0, 1] rfl, hD.sub [0, 1] (by decide) rfl⟩, hS.F ht⟩) hS.2.2 dX6_bigEndianToInt_25
    | succ k ih =>
      intro i hi u H locs ls hu hP hD hS hl
      refine lv_iload_n hx hb dX6_bigEndianToInt_2 rfl (lv_at hl 3 rfl) ?_
      refine lv_aload_n hx hb dX6_bigEndianToInt_3 rfl (lv_at hl 2 rfl) ?_
      refine va_alen (v := nI 4) hx hb hK hP 1 0 rfl rfl rfl dX6_bigEndianToInt_4 ?_
      refine lv_icmp_ge (tgt := 25) hx hb dX6_bigEndianToInt_5 (by decide) (fun c9 => absurd c9 (nI_ge (by omega) (by omega))) (fun _ => ?_)
      refine lv_aload_n hx hb dX6_bigEndianToInt_8 rfl (lv_at hl 2 rfl) ?_
      refine lv_iload_n hx hb dX6_bigEndianToInt_9 rfl (lv_at hl 3 rfl) ?_
      refine lv_aload_n hx hb dX6_bigEndianToInt_10 rfl (lv_at hl 0 rfl) ?_
      refine lv_iload_n hx hb dX6_bigEndianToInt_11 rfl (lv_at hl 1 rfl) ?_
      refine vp_callSi (va_runS (As := [.ref hg, .int (nI (4 * i))]) (rest := [.int (nI i), .ref hn]) ⟨hx, hb, hml, hown, hts⟩ (met_b2i l dC dI cI cB hg 16 (4 * i) g (by omega) (by decide)) (va_cwS 2 hts (lw_S q201 q202 q22 q203) rfl rfl rfl (by decide +kernel) ⟨Nat.le_of_ble_eq_true rfl, Nat.le_of_ble_eq_true rfl⟩) (cx_ppS hP hK [0] rfl) rfl rfl hl.1 rfl (lv_room (Nat.le_of_ble_eq_true rfl)) dX6_bigEndianToInt_12 ⟨Nat.le_of_ble_eq_true rfl, Nat.le_of_ble_eq_true rfl⟩).run (fun r_1 hr_1 => ?_)
      obtain rfl : r_1 = bf_be g (4 * i) := hr_1
      refine cx_iast hx hb hK hP hD hS 1 0 rfl rfl (i) (rfl) (by omega) (by decide) dX6_bigEndianToInt_15 (fun H locs hP hD hS => ?_)
      have hP : va_P (dC, dI) vwCl [aI cB hg 16 g, aI cI hn 4 (upd u i (bf_be g (4 * i)))] H := hP
      have hD : va_D A [aI cB hg 16 g, aI cI hn 4 (upd u i (bf_be g (4 * i)))] := hD
      refine lv_iinc (v := nI (4 * (i + 1))) (lv' := [(1, .int (nI (4 * (i + 1)))), (0, .ref hg), (2, .ref hn), (3, .int (nI i))]) hx hb dX6_bigEndianToInt_16 hl (k := 1) rfl (nI_add (4 * i) 4) (by decide) rfl (fun ls hl => ?_)
      refine lv_iinc (v := nI (i + 1)) (lv' := [(3, .int (nI (i + 1))), (1, .int (nI (4 * (i + 1)))), (0, .ref hg), (2, .ref hn)]) hx hb dX6_bigEndianToInt_19 hl (k := 3) rfl (nI_1 i) (by decide) rfl (fun ls hl => ?_)
      refine lv_goto (tgt := 2) hx hb dX6_bigEndianToInt_22 (by decide) ?_
      exact ih (i + 1) (by omega) _ H locs ls (bf_nx hu) hP hD hS (lv_sub hl [2, 1, 3, 0] rfl)
  exact loop 4 0 (by omega) f _ _ ls (fun j hj => absurd hj (by omega)) hP hD hS (lv_sub hl [1, 2, 3, 0] rfl)
set_option maxHeartbeats 4000000 in
set_option maxRecDepth 100000 in
/-- Pack.intToBigEndian(int, byte[], int) -/
theorem met_i2b (l : Launch) (dC : Nat → ClassId) (dI : Nat → Nat → Nat) (cI cB : ClassId) (hg N o : Nat) (x : Int32) (g : Nat → Int32) (ho : o + 3 < N) (hN : N < 2 ^ 30) (sz : Nat) : Met l yX6_intToBigEndian_2 (ws_ yX6_intToBigEndian_2 cX6_intToBigEndian_2 3 none) ({ frames := 0, cells := 0, slots := 0, locals := 0 } : Room) (cx_Pre (dC, dI) (tyL cI cB) [.int x, .ref hg, .int (nI o)] [aI cB hg N g] sz cx_No) (cx_Qv (S := Nat → Int32) (dC, dI) [aI cB hg N g] sz (fun u => bf_ld x o g u) (fun u => [aI cB hg N u])) 0 0 (va_A [aI cB hg N g] sz) := by
  refine Met.ofW (cc := cX6_intToBigEndian_2) (maxL := 3) (ret := none) (by decide) rfl ?_
  intro p e s m args below meth c s₁ B hml hv
  obtain ⟨rfl, hsz, hP, hK, hD0, hE⟩ := hv
  have hx := B.exec
  have hb := B.bytes
  have hr := B.returns
  have hts := atoms_spec (ws := (ws_ yX6_intToBigEndian_2 cX6_intToBigEndian_2 3 none)) B.pre
  have hts : ∀ w ∈ lw_all, w.before _ s = true := fun w h => hts w (List.mem_cons_of_mem _ h)
  have hown : s.vm.findClass RX6 = some m.cls := findClass_of_methodNamed B.named
  have hlocks := B.notSynchronized
  subst hsz
  obtain ⟨A, hAe⟩ : ∃ A : Nat → Prop, A = va_A [aI cB hg N g] s.heap.size := ⟨_, rfl⟩
  have hD : va_D A [aI cB hg N g] := by rw [hAe]; exact hD0.self
  have hA : ∀ q : Nat, s.heap.size ≤ q → A q := fun q h => by rw [hAe]; exact Or.inr h
  have hS : va_S A s.heap s.heap [] := va_S.rf
  refine cx_Q (fun Q hQe => ?_)
  have hP : va_P (dC, dI) vwCl [aI cB hg N g] s.heap := hP
  have hl := lv_entry ([.int x, .ref hg, .int (nI o)]) (n := 3) (Nat.le_of_ble_eq_true rfl)
  rw [lg_entry_eq]
  generalize (lg_sl ([.int x, .ref hg, .int (nI o)]) ++ List.replicate (3 - (lg_sl ([.int x, .ref hg, .int (nI o)])).length) Slot.unset).toArray = ls at hl ⊢
  have hl : lv_has ls 3 [(0, .int x), (1, .ref hg), (2, .int (nI o))] := hl
  refine lv_aload_n hx hb dX6_intToBigEndian_2_0 rfl (lv_at hl 1 rfl) ?_
  refine lv_iload_n hx hb dX6_intToBigEndian_2_1 rfl (lv_at hl 2 rfl) ?_
  refine lv_iload_n hx hb dX6_intToBigEndian_2_2 rfl (lv_at hl 0 rfl) ?_
  refine lv_bipush (v := 24) hx hb dX6_intToBigEndian_2_3 (by decide) ?_
  refine lv_iushr hx hb dX6_intToBigEndian_2_5 rfl ?_
  refine lv_i2b hx hb dX6_intToBigEndian_2_6 rfl ?_
  refine cx_bast hx hb hK hP hD hS 0 1 rfl rfl (o) (rfl) (by omega) (by omega) dX6_intToBigEndian_2_7 (fun H locs hP hD hS => ?_)
  have hP : va_P (dC, dI) vwCl [aI cB hg N (upd g o (vp_nar .byte (((x.toUInt32 >>> ((24 : Int32).toUInt32 &&& Int32.toUInt32 31)).toInt32).toInt8.toInt32)))] H := hP
  have hD : va_D A [aI cB hg N (upd g o (vp_nar .byte (((x.toUInt32 >>> ((24 : Int32).toUInt32 &&& Int32.toUInt32 31)).toInt32).toInt8.toInt32)))] := hD
  refine lv_aload_n hx hb dX6_intToBigEndian_2_8 rfl (lv_at hl 1 rfl) ?_
  refine lv_iinc (v := nI (o + 1)) (lv' := [(2, .int (nI (o + 1))), (0, .int x), (1, .ref hg)]) hx hb dX6_intToBigEndian_2_9 hl (k := 2) rfl (nI_1 o) (by decide) rfl (fun ls hl => ?_)
  refine lv_iload_n hx hb dX6_intToBigEndian_2_12 rfl (lv_at hl 0 rfl) ?_
  refine lv_iload_n hx hb dX6_intToBigEndian_2_13 rfl (lv_at hl 1 rfl) ?_
  refine lv_bipush (v := 16) hx hb dX6_intToBigEndian_2_14 (by decide) ?_
  refine lv_iushr hx hb dX6_intToBigEndian_2_16 rfl ?_
  refine lv_i2b hx hb dX6_intToBigEndian_2_17 rfl ?_
  refine cx_bast hx hb hK hP hD hS 0 1 rfl rfl ((o + 1)) (rfl) (by omega) (by omega) dX6_intToBigEndian_2_18 (fun H locs hP hD hS => ?_)
  have hP : va_P (dC, dI) vwCl [aI cB hg N (upd (upd g o (vp_nar .byte (((x.toUInt32 >>> ((24 : Int32).toUInt32 &&& Int32.toUInt32 31)).toInt32).toInt8.toInt32))) (o + 1) (vp_nar .byte (((x.toUInt32 >>> ((16 : Int32).toUInt32 &&& Int32.toUInt32 31)).toInt32).toInt8.toInt32)))] H := hP
  have hD : va_D A [aI cB hg N (upd (upd g o (vp_nar .byte (((x.toUInt32 >>> ((24 : Int32).toUInt32 &&& Int32.toUInt32 31)).toInt32).toInt8.toInt32))) (o + 1) (vp_nar .byte (((x.toUInt32 >>> ((16 : Int32).toUInt32 &&& Int32.toUInt32 31)).toInt32).toInt8.toInt32)))] := hD
  refine lv_aload_n hx hb dX6_intToBigEndian_2_19 rfl (lv_at hl 2 rfl) ?_
  refine lv_iinc (v := nI (o + 2)) (lv' := [(2, .int (nI (o + 2))), (0, .int x), (1, .ref hg)]) hx hb dX6_intToBigEndian_2_20 hl (k := 0) rfl (nI_1 (o + 1)) (by decide) rfl (fun ls hl => ?_)
  refine lv_iload_n hx hb dX6_intToBigEndian_2_23 rfl (lv_at hl 0 rfl) ?_
  refine lv_iload_n hx hb dX6_intToBigEndian_2_24 rfl (lv_at hl 1 rfl) ?_
  refine lv_bipush (v := 8) hx hb dX6_intToBigEndian_2_25 (by decide) ?_
  refine lv_iushr hx hb dX6_intToBigEndian_2_27 rfl ?_
  refine lv_i2b hx hb dX6_intToBigEndian_2_28 rfl ?_
  refine cx_bast hx hb hK hP hD hS 0 1 rfl rfl ((o + 2)) (rfl) (by omega) (by omega) dX6_intToBigEndian_2_29 (fun H locs hP hD hS => ?_)
  have hP : va_P (dC, dI) vwCl [aI cB hg N (upd (upd (upd g o (vp_nar .byte (((x.toUInt32 >>> ((24 : Int32).toUInt32 &&& Int32.toUInt32 31)).toInt32).toInt8.toInt32))) (o + 1) (vp_nar .byte (((x.toUInt32 >>> ((16 : Int32).toUInt32 &&& Int32.toUInt32 31)).toInt32).toInt8.toInt32))) (o + 2) (vp_nar .byte (((x.toUInt32 >>> ((8 : Int32).toUInt32 &&& Int32.toUInt32 31)).toInt32).toInt8.toInt32)))] H := hP
  have hD : va_D A [aI cB hg N (upd (upd (upd g o (vp_nar .byte (((x.toUInt32 >>> ((24 : Int32).toUInt32 &&& Int32.toUInt32 31)).toInt32).toInt8.toInt32))) (o + 1) (vp_nar .byte (((x.toUInt32 >>> ((16 : Int32).toUInt32 &&& Int32.toUInt32 31)).toInt32).toInt8.toInt32))) (o + 2) (vp_nar .byte (((x.toUInt32 >>> ((8 : Int32).toUInt32 &&& Int32.toUInt32 31)).toInt32).toInt8.toInt32)))] := hD
  refine lv_aload_n hx hb dX6_intToBigEndian_2_30 rfl (lv_at hl 2 rfl) ?_
  refine lv_iinc (v := nI (o + 3)) (lv' := [(2, .int (nI (o + 3))), (0, .int x), (1, .ref hg)]) hx hb dX6_intToBigEndian_2_31 hl (k := 0) rfl (nI_1 (o + 2)) (by decide) rfl (fun ls hl => ?_)
  refine lv_iload_n hx hb dX6_intToBigEndian_2_34 rfl (lv_at hl 0 rfl) ?_
  refine lv_iload_n hx hb dX6_intToBigEndian_2_35 rfl (lv_at hl 1 rfl) ?_
  refine lv_i2b hx hb dX6_intToBigEndian_2_36 rfl ?_
  refine cx_bast hx hb hK hP hD hS 0 1 rfl rfl ((o + 3)) (rfl) (by omega) (by omega) dX6_intToBigEndian_2_37 (fun H locs hP hD hS => ?_)
  have hP : va_P (dC, dI) vwCl [aI cB hg N (upd (upd (upd (upd g o (vp_nar .byte (((x.toUInt32 >>> ((24 : Int32).toUInt32 &&& Int32.toUInt32 31)).toInt32).toInt8.toInt32))) (o + 1) (vp_nar .byte (((x.toUInt32 >>> ((16 : Int32).toUInt32 &&& Int32.toUInt32 31)).toInt32).toInt8.toInt32))) (o + 2) (vp_nar .byte (((x.toUInt32 >>> ((8 : Int32).toUInt32 &&& Int32.toUInt32 31)).toInt32).toInt8.toInt32))) (o + 3) (vp_nar .byte x.toInt8.toInt32))] H := hP
  have hD : va_D A [aI cB hg N (upd (upd (upd (upd g o (vp_nar .byte (((x.toUInt32 >>> ((24 : Int32).toUInt32 &&& Int32.toUInt32 31)).toInt32).toInt8.toInt32))) (o + 1) (vp_nar .byte (((x.toUInt32 >>> ((16 : Int32).toUInt32 &&& Int32.toUInt32 31)).toInt32).toInt8.toInt32))) (o + 2) (vp_nar .byte (((x.toUInt32 >>> ((8 : Int32).toUInt32 &&& Int32.toUInt32 31)).toInt32).toInt8.toInt32))) (o + 3) (vp_nar .byte x.toInt8.toInt32))] := hD
  subst hQe
  subst hAe
  exact W.vret hx hb hr (fun t ht hW => ⟨⟨_, rfl, bf_ld_u x o g, by rw [ht]; exact hP.sub [0] rfl, hD.sub [0] (by decide) rfl⟩, hS.F ht⟩) hS.2.2 dX6_intToBigEndian_2_38
set_option maxHeartbeats 4000000 in
set_option maxRecDepth 100000 in
/-- Pack.intToBigEndian(int[], byte[], int) -/
theorem met_i2b6 (l : Launch) (dC : Nat → ClassId) (dI : Nat → Nat → Nat) (cI cB : ClassId) (hf hg : Nat) (f g : Nat → Int32) (sz : Nat) : Met l yX6_intToBigEndian (ws_ yX6_intToBigEndian cX6_intToBigEndian 4 none) ({ frames := 1, cells := 0, slots := 0, locals := 22 } : Room) (cx_Pre (dC, dI) (tyL cI cB) [.ref hf, .ref hg, .int (nI 0)] [aI cI hf 6 f, aI cB hg 24 g] sz cx_No) (cx_Qv (S := Nat → Int32) (dC, dI) [aI cI hf 6 f, aI cB hg 24 g] sz (fun u => ∀ j, j < 24 → u j &&& 255 = bf_by (f (j / 4)) (j % 4)) (fun u => [aI cI hf 6 f, aI cB hg 24 u])) 0 0 (va_A [aI cI hf 6 f, aI cB hg 24 g] sz) := by
  refine Met.ofW (cc := cX6_intToBigEndian) (maxL := 4) (ret := none) (by decide) rfl ?_
  intro p e s m args below meth c s₁ B hml hv
  obtain ⟨rfl, hsz, hP, hK, hD0, hE⟩ := hv
  have hx := B.exec
  have hb := B.bytes
  have hr := B.returns
  have hts := atoms_spec (ws := (ws_ yX6_intToBigEndian cX6_intToBigEndian 4 none)) B.pre
  have hts : ∀ w ∈ lw_all, w.before _ s = true := fun w h => hts w (List.mem_cons_of_mem _ h)
  have hown : s.vm.findClass RX6 = some m.cls := findClass_of_methodNamed B.named
  have hlocks := B.notSynchronized
  subst hsz
  obtain ⟨A, hAe⟩ : ∃ A : Nat → Prop, A = va_A [aI cI hf 6 f, aI cB hg 24 g] s.heap.size := ⟨_, rfl⟩
  have hD : va_D A [aI cI hf 6 f, aI cB hg 24 g] := by rw [hAe]; exact hD0.self
  have hA : ∀ q : Nat, s.heap.size ≤ q → A q := fun q h => by rw [hAe]; exact Or.inr h
  have hS : va_S A s.heap s.heap [] := va_S.rf
  refine cx_Q (fun Q hQe => ?_)
  have hP : va_P (dC, dI) vwCl [aI cI hf 6 f, aI cB hg 24 g] s.heap := hP
  have hl := lv_entry ([.ref hf, .ref hg, .int (nI 0)]) (n := 4) (Nat.le_of_ble_eq_true rfl)
  rw [lg_entry_eq]
  generalize (lg_sl ([.ref hf, .ref hg, .int (nI 0)]) ++ List.replicate (4 - (lg_sl ([.ref hf, .ref hg, .int (nI 0)])).length) Slot.unset).toArray = ls at hl ⊢
  have hl : lv_has ls 4 [(0, .ref hf), (1, .ref hg), (2, .int (nI 0))] := hl
  refine lv_iconst (v := nI 0) hx hb dX6_intToBigEndian_0 (by decide) ?_
  refine lv_istore_n (lv' := [(3, .int (nI 0)), (0, .ref hf), (1, .ref hg), (2, .int (nI 0))]) hx hb dX6_intToBigEndian_1 rfl hl (by decide) rfl (fun ls hl => ?_)
  have loop : ∀ (k i : Nat), i + k = 6 → ∀ (u : Nat → Int32) (H : Heap) (locs : List Loc) (ls : Array Slot), (∀ j, j < 4 * i → u j &&& 255 = bf_by (f (j / 4)) (j % 4)) → va_P (dC, dI) vwCl [aI cI hf 6 f, aI cB hg 24 u] H → va_D A [aI cI hf 6 f, aI cB hg 24 u] → va_S A s.heap H locs → lv_has ls 4 [(0, .ref hf), (1, .ref hg), (2, .int (nI (4 * i))), (3, .int (nI i))] → W p l e (headSpec (ws_ yX6_intToBigEndian cX6_intToBigEndian 4 none) ({ frames := 1, cells := 0, slots := 0, locals := 22 } : Room)).room s m ([.ref hf, .ref hg, .int (nI 0)] : List Value).toArray below meth c H locs 0 0 Q (F0 m 2 ls []) := by
    intro k
    induction k with
    | zero =>
      intro i hi u H locs ls hu hP hD hS hl
      refine lv_iload_n hx hb dX6_intToBigEndian_2 rfl (lv_at hl 3 rfl) ?_
      refine lv_aload_n hx hb dX6_intToBigEndian_3 rfl (lv_at hl 0 rfl) ?_
      refine va_alen (v := nI 6) hx hb hK hP 0 0 rfl rfl rfl dX6_intToBigEndian_4 ?_
      refine lv_icmp_ge (tgt := 25) hx hb dX6_intToBigEndian_5 (by decide) (fun _ => ?_) (fun c9 => absurd (nI_le (by omega) (by omega)) c9)
      subst hQe
      subst hAe
      exact W.vret hx hb hr (fun t ht hW => ⟨⟨u, rfl, fun j hj => hu j (by omega), by rw [ht]; exact hP.sub [0, 1] rfl, hD.sub [0, 1] (by decide) rfl⟩, hS.F ht⟩) hS.2.2 dX6_intToBigEndian_25
    | succ k ih =>
      intro i hi u H locs ls hu hP hD hS hl
      refine lv_iload_n hx hb dX6_intToBigEndian_2 rfl (lv_at hl 3 rfl) ?_
      refine lv_aload_n hx hb dX6_intToBigEndian_3 rfl (lv_at hl 0 rfl) ?_
      refine va_alen (v := nI 6) hx hb hK hP 0 0 rfl rfl rfl dX6_intToBigEndian_4 ?_
      refine lv_icmp_ge (tgt := 25) hx hb dX6_intToBigEndian_5 (by decide) (fun c9 => absurd c9 (nI_ge (by omega) (by omega))) (fun _ => ?_)
      refine lv_aload_n hx hb dX6_intToBigEndian_8 rfl (lv_at hl 0 rfl) ?_
      refine lv_iload_n hx hb dX6_intToBigEndian_9 rfl (lv_at hl 3 rfl) ?_
      refine cx_iald hx hb hK hP 0 0 rfl rfl (i) (rfl) (by omega) (by decide) dX6_intToBigEndian_10 ?_
      refine lv_aload_n hx hb dX6_intToBigEndian_11 rfl (lv_at hl 1 rfl) ?_
      refine lv_iload_n hx hb dX6_intToBigEndian_12 rfl (lv_at hl 2 rfl) ?_
      refine cx_callv (wr := [aI cI hf 6 f]) (va_runS (As := [.int (f i), .ref hg, .int (nI (4 * i))]) (rest := []) ⟨hx, hb, hml, hown, hts⟩ (met_i2b l dC dI cI cB hg 24 (4 * i) (f i) u (by omega) (by decide) H.size) (va_cwS 3 hts (lw_S q235 q236 q22 q237) rfl rfl rfl (by decide +kernel) ⟨Nat.le_of_ble_eq_true rfl, Nat.le_of_ble_eq_true rfl⟩) (cx_preS hP hD hK [1] rfl (by decide) rfl (cx_No_b) (fun _ _ _ => trivial)) rfl rfl hl.1 rfl (lv_room (Nat.le_of_ble_eq_true rfl)) dX6_intToBigEndian_13 ⟨Nat.le_of_ble_eq_true rfl, Nat.le_of_ble_eq_true rfl⟩) hP hD hS hA [1] [0] rfl rfl (by decide) (by decide) (fun u1 H locs hw hP hD hS => ?_)
      have hP : va_P (dC, dI) vwCl [aI cI hf 6 f, aI cB hg 24 u1] H := hP
      have hD : va_D A [aI cI hf 6 f, aI cB hg 24 u1] := hD
      refine lv_iinc (v := nI (4 * (i + 1))) (lv' := [(2, .int (nI (4 * (i + 1)))), (0, .ref hf), (1, .ref hg), (3, .int (nI i))]) hx hb dX6_intToBigEndian_16 hl (k := 2) rfl (nI_add (4 * i) 4) (by decide) rfl (fun ls hl => ?_)
      refine lv_iinc (v := nI (i + 1)) (lv' := [(3, .int (nI (i + 1))), (2, .int (nI (4 * (i + 1)))), (0, .ref hf), (1, .ref hg)]) hx hb dX6_intToBigEndian_19 hl (k := 3) rfl (nI_1 i) (by decide) rfl (fun ls hl => ?_)
      refine lv_goto (tgt := 2) hx hb dX6_intToBigEndian_22 (by decide) ?_
      exact ih (i + 1) (by omega) u1 H locs ls (bf_ld_nx hu hw) hP hD hS (lv_sub hl [2, 3, 1, 0] rfl)
  exact loop 6 0 (by omega) g _ _ ls (fun j hj => absurd hj (by omega)) hP hD hS (lv_sub hl [1, 2, 3, 0] rfl)
set_option maxHeartbeats 4000000 in
set_option maxRecDepth 100000 in
/-- java.util.Arrays.fill(int[], int) -/
theorem met_jfill (l : Launch) (dC : Nat → ClassId) (dI : Nat → Nat → Nat) (cI cB : ClassId) (hg N : Nat) (x : Int32) (g : Nat → Int32) (hN : N < 2 ^ 30) (sz : Nat) : Met l yJ4_fill (ws_ yJ4_fill cJ4_fill 4 none) ({ frames := 0, cells := 0, slots := 0, locals := 0 } : Room) (cx_Pre (dC, dI) (tyL cI cB) [.ref hg, .int x] [aI cI hg N g] sz cx_No) (cx_Qv (S := Nat → Int32) (dC, dI) [aI cI hg N g] sz (fun u => True) (fun u => [aI cI hg N u])) 0 0 (va_A [aI cI hg N g] sz) := by
  refine Met.ofW (cc := cJ4_fill) (maxL := 4) (ret := none) (by decide) rfl ?_
  intro p e s m args below meth c s₁ B hml hv
  obtain ⟨rfl, hsz, hP, hK, hD0, hE⟩ := hv
  have hx := B.exec
  have hb := B.bytes
  have hr := B.returns
  have hts := atoms_spec (ws := (ws_ yJ4_fill cJ4_fill 4 none)) B.pre
  have hts : ∀ w ∈ lw_all, w.before _ s = true := fun w h => hts w (List.mem_cons_of_mem _ h)
  have hown : s.vm.findClass RJ4 = some m.cls := findClass_of_methodNamed B.named
  have hlocks := B.notSynchronized
  subst hsz
  obtain ⟨A, hAe⟩ : ∃ A : Nat → Prop, A = va_A [aI cI hg N g] s.heap.size := ⟨_, rfl⟩
  have hD : va_D A [aI cI hg N g] := by rw [hAe]; exact hD0.self
  have hA : ∀ q : Nat, s.heap.size ≤ q → A q := fun q h => by rw [hAe]; exact Or.inr h
  have hS : va_S A s.heap s.heap [] := va_S.rf
  refine cx_Q (fun Q hQe => ?_)
  have hP : va_P (dC, dI) vwCl [aI cI hg N g] s.heap := hP
  have hl := lv_entry ([.ref hg, .int x]) (n := 4) (Nat.le_of_ble_eq_true rfl)
  rw [lg_entry_eq]
  generalize (lg_sl ([.ref hg, .int x]) ++ List.replicate (4 - (lg_sl ([.ref hg, .int x])).length) Slot.unset).toArray = ls at hl ⊢
  have hl : lv_has ls 4 [(0, .ref hg), (1, .int x)] := hl
  refine lv_iconst (v := nI 0) hx hb dJ4_fill_0 (by decide) ?_
  refine lv_istore_n (lv' := [(2, .int (nI 0)), (0, .ref hg), (1, .int x)]) hx hb dJ4_fill_1 rfl hl (by decide) rfl (fun ls hl => ?_)
  refine lv_aload_n hx hb dJ4_fill_2 rfl (lv_at hl 1 rfl) ?_
  refine va_alen (v := nI N) hx hb hK hP 0 0 rfl rfl rfl dJ4_fill_3 ?_
  refine lv_istore_n (lv' := [(3, .int (nI N)), (2, .int (nI 0)), (0, .ref hg), (1, .int x)]) hx hb dJ4_fill_4 rfl hl (by decide) rfl (fun ls hl => ?_)
  have loop : ∀ (k i : Nat), i + k = N → ∀ (u : Nat → Int32) (H : Heap) (locs : List Loc) (ls : Array Slot), va_P (dC, dI) vwCl [aI cI hg N u] H → va_D A [aI cI hg N u] → va_S A s.heap H locs → lv_has ls 4 [(0, .ref hg), (1, .int x), (2, .int (nI i)), (3, .int (nI N))] → W p l e (headSpec (ws_ yJ4_fill cJ4_fill 4 none) ({ frames := 0, cells := 0, slots := 0, locals := 0 } : Room)).room s m ([.ref hg, .int x] : List Value).toArray below meth c H locs 0 0 Q (F0 m 5 ls []) := by
    intro k
    induction k with
    | zero =>
      intro i hi u H locs ls hP hD hS hl
      refine lv_iload_n hx hb dJ4_fill_5 rfl (lv_at hl 2 rfl) ?_
      refine lv_iload_n hx hb dJ4_fill_6 rfl (lv_at hl 3 rfl) ?_
      refine lv_icmp_ge (tgt := 20) hx hb dJ4_fill_7 (by decide) (fun _ => ?_) (fun c9 => absurd (nI_le (by omega) (by omega)) c9)
      subst hQe
      subst hAe
      exact W.vret hx hb hr (fun t ht hW => ⟨⟨u, rfl, trivial, by rw [ht]; exact hP.sub [0] rfl, hD.sub [0] (by decide) rfl⟩, hS.F ht⟩) hS.2.2 dJ4_fill_20
    | succ k ih =>
      intro i hi u H locs ls hP hD hS hl
      refine lv_iload_n hx hb dJ4_fill_5 rfl (lv_at hl 2 rfl) ?_
      refine lv_iload_n hx hb dJ4_fill_6 rfl (lv_at hl 3 rfl) ?_
      refine lv_icmp_ge (tgt := 20) hx hb dJ4_fill_7 (by decide) (fun c9 => absurd c9 (nI_ge (by omega) (by omega))) (fun _ => ?_)
      refine lv_aload_n hx hb dJ4_fill_10 rfl (lv_at hl 0 rfl) ?_
      refine lv_iload_n hx hb dJ4_fill_11 rfl (lv_at hl 2 rfl) ?_
      refine lv_iload_n hx hb dJ4_fill_12 rfl (lv_at hl 1 rfl) ?_
      refine cx_iast hx hb hK hP hD hS 0 0 rfl rfl (i) (rfl) (by omega) (by omega) dJ4_fill_13 (fun H locs hP hD hS => ?_)
      have hP : va_P (dC, dI) vwCl [aI cI hg N (upd u i x)] H := hP
      have hD : va_D A [aI cI hg N (upd u i x)] := hD
      refine lv_iinc (v := nI (i + 1)) (lv' := [(2, .int (nI (i + 1))), (0, .ref hg), (1, .int x), (3, .int (nI N))]) hx hb dJ4_fill_14 hl (k := 2) rfl (nI_1 i) (by decide) rfl (fun ls hl => ?_)
      refine lv_goto (tgt := 5) hx hb dJ4_fill_17 (by decide) ?_
      exact ih (i + 1) (by omega) _ H locs ls hP hD hS (lv_sub hl [1, 2, 0, 3] rfl)
  exact loop N 0 (by omega) g _ _ ls hP hD hS (lv_sub hl [2, 3, 1, 0] rfl)
set_option maxHeartbeats 4000000 in
set_option maxRecDepth 100000 in
/-- OwnArrays.fill(int[], int) -/
theorem met_fill (l : Launch) (dC : Nat → ClassId) (dI : Nat → Nat → Nat) (cI cB : ClassId) (hg N : Nat) (x : Int32) (g : Nat → Int32) (hN : N < 2 ^ 30) (sz : Nat) : Met l yX3_fill (ws_ yX3_fill cX3_fill 2 none) ({ frames := 1, cells := 0, slots := 0, locals := 23 } : Room) (cx_Pre (dC, dI) (tyL cI cB) [.ref hg, .int x] [aI cI hg N g] sz cx_No) (cx_Qv (S := Nat → Int32) (dC, dI) [aI cI hg N g] sz (fun u => True) (fun u => [aI cI hg N u])) 0 0 (va_A [aI cI hg N g] sz) := by
  refine Met.ofW (cc := cX3_fill) (maxL := 2) (ret := none) (by decide) rfl ?_
  intro p e s m args below meth c s₁ B hml hv
  obtain ⟨rfl, hsz, hP, hK, hD0, hE⟩ := hv
  have hx := B.exec
  have hb := B.bytes
  have hr := B.returns
  have hts := atoms_spec (ws := (ws_ yX3_fill cX3_fill 2 none)) B.pre
  have hts : ∀ w ∈ lw_all, w.before _ s = true := fun w h => hts w (List.mem_cons_of_mem _ h)
  have hown : s.vm.findClass RX3 = some m.cls := findClass_of_methodNamed B.named
  have hlocks := B.notSynchronized
  subst hsz
  obtain ⟨A, hAe⟩ : ∃ A : Nat → Prop, A = va_A [aI cI hg N g] s.heap.size := ⟨_, rfl⟩
  have hD : va_D A [aI cI hg N g] := by rw [hAe]; exact hD0.self
  have hA : ∀ q : Nat, s.heap.size ≤ q → A q := fun q h => by rw [hAe]; exact Or.inr h
  have hS : va_S A s.heap s.heap [] := va_S.rf
  refine cx_Q (fun Q hQe => ?_)
  have hP : va_P (dC, dI) vwCl [aI cI hg N g] s.heap := hP
  have hl := lv_entry ([.ref hg, .int x]) (n := 2) (Nat.le_of_ble_eq_true rfl)
  rw [lg_entry_eq]
  generalize (lg_sl ([.ref hg, .int x]) ++ List.replicate (2 - (lg_sl ([.ref hg, .int x])).length) Slot.unset).toArray = ls at hl ⊢
  have hl : lv_has ls 2 [(0, .ref hg), (1, .int x)] := hl
  refine lv_aload_n hx hb dX3_fill_0 rfl (lv_at hl 0 rfl) ?_
  refine lv_iload_n hx hb dX3_fill_1 rfl (lv_at hl 1 rfl) ?_
  refine cx_callv (wr := []) (va_runS (As := [.ref hg, .int x]) (rest := []) ⟨hx, hb, hml, hown, hts⟩ (met_jfill l dC dI cI cB hg N x g hN s.heap.size) (va_cwS 2 hts (lw_S q219 q220 q23 q221) rfl rfl rfl (by decide +kernel) ⟨Nat.le_of_ble_eq_true rfl, Nat.le_of_ble_eq_true rfl⟩) (cx_preS hP hD hK [0] rfl (by decide) rfl (cx_No_b) (fun _ _ _ => trivial)) rfl rfl hl.1 rfl (lv_room (Nat.le_of_ble_eq_true rfl)) dX3_fill_2 ⟨Nat.le_of_ble_eq_true rfl, Nat.le_of_ble_eq_true rfl⟩) hP hD hS hA [0] [] rfl rfl (by decide) (by decide) (fun u H locs hw hP hD hS => ?_)
  have hP : va_P (dC, dI) vwCl [aI cI hg N u] H := hP
  have hD : va_D A [aI cI hg N u] := hD
  subst hQe
  subst hAe
  exact W.vret hx hb hr (fun t ht hW => ⟨⟨u, rfl, trivial, by rw [ht]; exact hP.sub [0] rfl, hD.sub [0] (by decide) rfl⟩, hS.F ht⟩) hS.2.2 dX3_fill_5
set_option maxHeartbeats 4000000 in
set_option maxRecDepth 100000 in
/-- CryptDesk.lay -/
theorem met_lay0 (l : Launch) (dC : Nat → ClassId) (dI : Nat → Nat → Nat) (cI cB : ClassId) (hg N o : Nat) (x : Int32) (g : Nat → Int32) (ho : o + 3 < N) (hN : N < 2 ^ 30) (sz : Nat) : Met l yX0_lay (ws_ yX0_lay cX0_lay 3 none) ({ frames := 0, cells := 0, slots := 0, locals := 0 } : Room) (cx_Pre (dC, dI) (tyL cI cB) [.ref hg, .int (nI o), .int x] [aI cB hg N g] sz cx_No) (cx_Qv (S := Nat → Int32) (dC, dI) [aI cB hg N g] sz (fun u => bf_ld x o g u) (fun u => [aI cB hg N u])) 0 0 (va_A [aI cB hg N g] sz) := by
  refine Met.ofW (cc := cX0_lay) (maxL := 3) (ret := none) (by decide) rfl ?_
  intro p e s m args below meth c s₁ B hml hv
  obtain ⟨rfl, hsz, hP, hK, hD0, hE⟩ := hv
  have hx := B.exec
  have hb := B.bytes
  have hr := B.returns
  have hts := atoms_spec (ws := (ws_ yX0_lay cX0_lay 3 none)) B.pre
  have hts : ∀ w ∈ lw_all, w.before _ s = true := fun w h => hts w (List.mem_cons_of_mem _ h)
  have hown : s.vm.findClass RX0 = some m.cls := findClass_of_methodNamed B.named
  have hlocks := B.notSynchronized
  subst hsz
  obtain ⟨A, hAe⟩ : ∃ A : Nat → Prop, A = va_A [aI cB hg N g] s.heap.size := ⟨_, rfl⟩
  have hD : va_D A [aI cB hg N g] := by rw [hAe]; exact hD0.self
  have hA : ∀ q : Nat, s.heap.size ≤ q → A q := fun q h => by rw [hAe]; exact Or.inr h
  have hS : va_S A s.heap s.heap [] := va_S.rf
  refine cx_Q (fun Q hQe => ?_)
  have hP : va_P (dC, dI) vwCl [aI cB hg N g] s.heap := hP
  have hl := lv_entry ([.ref hg, .int (nI o), .int x]) (n := 3) (Nat.le_of_ble_eq_true rfl)
  rw [lg_entry_eq]
  generalize (lg_sl ([.ref hg, .int (nI o), .int x]) ++ List.replicate (3 - (lg_sl ([.ref hg, .int (nI o), .int x])).length) Slot.unset).toArray = ls at hl ⊢
  have hl : lv_has ls 3 [(0, .ref hg), (1, .int (nI o)), (2, .int x)] := hl
  refine lv_aload_n hx hb dX0_lay_0 rfl (lv_at hl 0 rfl) ?_
  refine lv_iload_n hx hb dX0_lay_1 rfl (lv_at hl 1 rfl) ?_
  refine lv_iload_n hx hb dX0_lay_2 rfl (lv_at hl 2 rfl) ?_
  refine lv_bipush (v := 24) hx hb dX0_lay_3 (by decide) ?_
  refine lv_ishr hx hb dX0_lay_5 ?_
  refine lv_i2b hx hb dX0_lay_6 rfl ?_
  refine cx_bast hx hb hK hP hD hS 0 1 rfl rfl (o) (rfl) (by omega) (by omega) dX0_lay_7 (fun H locs hP hD hS => ?_)
  have hP : va_P (dC, dI) vwCl [aI cB hg N (upd g o (vp_nar .byte ((x >>> (24 &&& 31)).toInt8.toInt32)))] H := hP
  have hD : va_D A [aI cB hg N (upd g o (vp_nar .byte ((x >>> (24 &&& 31)).toInt8.toInt32)))] := hD
  refine lv_aload_n hx hb dX0_lay_8 rfl (lv_at hl 0 rfl) ?_
  refine lv_iload_n hx hb dX0_lay_9 rfl (lv_at hl 1 rfl) ?_
  refine lv_iconst (v := nI 1) hx hb dX0_lay_10 (by decide) ?_
  refine lv_iadd hx hb dX0_lay_11 ?_
  refine cx_top (nI (o + 1)) (nI_add o 1) ?_
  refine lv_iload_n hx hb dX0_lay_12 rfl (lv_at hl 2 rfl) ?_
  refine lv_bipush (v := 16) hx hb dX0_lay_13 (by decide) ?_
  refine lv_ishr hx hb dX0_lay_15 ?_
  refine lv_i2b hx hb dX0_lay_16 rfl ?_
  refine cx_bast hx hb hK hP hD hS 0 1 rfl rfl ((o + 1)) (rfl) (by omega) (by omega) dX0_lay_17 (fun H locs hP hD hS => ?_)
  have hP : va_P (dC, dI) vwCl [aI cB hg N (upd (upd g o (vp_nar .byte ((x >>> (24 &&& 31)).toInt8.toInt32))) (o + 1) (vp_nar .byte ((x >>> (16 &&& 31)).toInt8.toInt32)))] H := hP
  have hD : va_D A [aI cB hg N (upd (upd g o (vp_nar .byte ((x >>> (24 &&& 31)).toInt8.toInt32))) (o + 1) (vp_nar .byte ((x >>> (16 &&& 31)).toInt8.toInt32)))] := hD
  refine lv_aload_n hx hb dX0_lay_18 rfl (lv_at hl 0 rfl) ?_
  refine lv_iload_n hx hb dX0_lay_19 rfl (lv_at hl 1 rfl) ?_
  refine lv_iconst (v := nI 2) hx hb dX0_lay_20 (by decide) ?_
  refine lv_iadd hx hb dX0_lay_21 ?_
  refine cx_top (nI (o + 2)) (nI_add o 2) ?_
  refine lv_iload_n hx hb dX0_lay_22 rfl (lv_at hl 2 rfl) ?_
  refine lv_bipush (v := 8) hx hb dX0_lay_23 (by decide) ?_
  refine lv_ishr hx hb dX0_lay_25 ?_
  refine lv_i2b hx hb dX0_lay_26 rfl ?_
  refine cx_bast hx hb hK hP hD hS 0 1 rfl rfl ((o + 2)) (rfl) (by omega) (by omega) dX0_lay_27 (fun H locs hP hD hS => ?_)
  have hP : va_P (dC, dI) vwCl [aI cB hg N (upd (upd (upd g o (vp_nar .byte ((x >>> (24 &&& 31)).toInt8.toInt32))) (o + 1) (vp_nar .byte ((x >>> (16 &&& 31)).toInt8.toInt32))) (o + 2) (vp_nar .byte ((x >>> (8 &&& 31)).toInt8.toInt32)))] H := hP
  have hD : va_D A [aI cB hg N (upd (upd (upd g o (vp_nar .byte ((x >>> (24 &&& 31)).toInt8.toInt32))) (o + 1) (vp_nar .byte ((x >>> (16 &&& 31)).toInt8.toInt32))) (o + 2) (vp_nar .byte ((x >>> (8 &&& 31)).toInt8.toInt32)))] := hD
  refine lv_aload_n hx hb dX0_lay_28 rfl (lv_at hl 0 rfl) ?_
  refine lv_iload_n hx hb dX0_lay_29 rfl (lv_at hl 1 rfl) ?_
  refine lv_iconst (v := nI 3) hx hb dX0_lay_30 (by decide) ?_
  refine lv_iadd hx hb dX0_lay_31 ?_
  refine cx_top (nI (o + 3)) (nI_add o 3) ?_
  refine lv_iload_n hx hb dX0_lay_32 rfl (lv_at hl 2 rfl) ?_
  refine lv_i2b hx hb dX0_lay_33 rfl ?_
  refine cx_bast hx hb hK hP hD hS 0 1 rfl rfl ((o + 3)) (rfl) (by omega) (by omega) dX0_lay_34 (fun H locs hP hD hS => ?_)
  have hP : va_P (dC, dI) vwCl [aI cB hg N (upd (upd (upd (upd g o (vp_nar .byte ((x >>> (24 &&& 31)).toInt8.toInt32))) (o + 1) (vp_nar .byte ((x >>> (16 &&& 31)).toInt8.toInt32))) (o + 2) (vp_nar .byte ((x >>> (8 &&& 31)).toInt8.toInt32))) (o + 3) (vp_nar .byte x.toInt8.toInt32))] H := hP
  have hD : va_D A [aI cB hg N (upd (upd (upd (upd g o (vp_nar .byte ((x >>> (24 &&& 31)).toInt8.toInt32))) (o + 1) (vp_nar .byte ((x >>> (16 &&& 31)).toInt8.toInt32))) (o + 2) (vp_nar .byte ((x >>> (8 &&& 31)).toInt8.toInt32))) (o + 3) (vp_nar .byte x.toInt8.toInt32))] := hD
  subst hQe
  subst hAe
  exact W.vret hx hb hr (fun t ht hW => ⟨⟨_, rfl, bf_ld_s x o g, by rw [ht]; exact hP.sub [0] rfl, hD.sub [0] (by decide) rfl⟩, hS.F ht⟩) hS.2.2 dX0_lay_35
set_option maxHeartbeats 4000000 in
set_option maxRecDepth 100000 in
/-- CryptDeskModel.lay -/
theorem met_lay1 (l : Launch) (dC : Nat → ClassId) (dI : Nat → Nat → Nat) (cI cB : ClassId) (hg N o : Nat) (x : Int32) (g : Nat → Int32) (ho : o + 3 < N) (hN : N < 2 ^ 30) (sz : Nat) : Met l yX1_lay (ws_ yX1_lay cX1_lay 4 none) ({ frames := 0, cells := 0, slots := 0, locals := 0 } : Room) (cx_Pre (dC, dI) (tyL cI cB) [.ref hg, .int (nI o), .int x] [aI cI hg N g] sz cx_No) (cx_Qv (S := Nat → Int32) (dC, dI) [aI cI hg N g] sz (fun u => bf_lm x o g u) (fun u => [aI cI hg N u])) 0 0 (va_A [aI cI hg N g] sz) := by
  refine Met.ofW (cc := cX1_lay) (maxL := 4) (ret := none) (by decide) rfl ?_
  intro p e s m args below meth c s₁ B hml hv
  obtain ⟨rfl, hsz, hP, hK, hD0, hE⟩ := hv
  have hx := B.exec
  have hb := B.bytes
  have hr := B.returns
  have hts := atoms_spec (ws := (ws_ yX1_lay cX1_lay 4 none)) B.pre
  have hts : ∀ w ∈ lw_all, w.before _ s = true := fun w h => hts w (List.mem_cons_of_mem _ h)
  have hown : s.vm.findClass RX1 = some m.cls := findClass_of_methodNamed B.named
  have hlocks := B.notSynchronized
  subst hsz
  obtain ⟨A, hAe⟩ : ∃ A : Nat → Prop, A = va_A [aI cI hg N g] s.heap.size := ⟨_, rfl⟩
  have hD : va_D A [aI cI hg N g] := by rw [hAe]; exact hD0.self
  have hA : ∀ q : Nat, s.heap.size ≤ q → A q := fun q h => by rw [hAe]; exact Or.inr h
  have hS : va_S A s.heap s.heap [] := va_S.rf
  refine cx_Q (fun Q hQe => ?_)
  have hP : va_P (dC, dI) vwCl [aI cI hg N g] s.heap := hP
  have hl := lv_entry ([.ref hg, .int (nI o), .int x]) (n := 4) (Nat.le_of_ble_eq_true rfl)
  rw [lg_entry_eq]
  generalize (lg_sl ([.ref hg, .int (nI o), .int x]) ++ List.replicate (4 - (lg_sl ([.ref hg, .int (nI o), .int x])).length) Slot.unset).toArray = ls at hl ⊢
  have hl : lv_has ls 4 [(0, .ref hg), (1, .int (nI o)), (2, .int x)] := hl
  refine lv_iconst (v := nI 0) hx hb dX1_lay_0 (by decide) ?_
  refine lv_istore_n (lv' := [(3, .int (nI 0)), (0, .ref hg), (1, .int (nI o)), (2, .int x)]) hx hb dX1_lay_1 rfl hl (by decide) rfl (fun ls hl => ?_)
  have loop : ∀ (k i : Nat), i + k = 4 → ∀ (u : Nat → Int32) (H : Heap) (locs : List Loc) (ls : Array Slot), u = bf_lmk x o g i → va_P (dC, dI) vwCl [aI cI hg N u] H → va_D A [aI cI hg N u] → va_S A s.heap H locs → lv_has ls 4 [(0, .ref hg), (1, .int (nI o)), (2, .int x), (3, .int (nI i))] → W p l e (headSpec (ws_ yX1_lay cX1_lay 4 none) ({ frames := 0, cells := 0, slots := 0, locals := 0 } : Room)).room s m ([.ref hg, .int (nI o), .int x] : List Value).toArray below meth c H locs 0 0 Q (F0 m 2 ls []) := by
    intro k
    induction k with
    | zero =>
      intro i hi u H locs ls hu hP hD hS hl
      refine lv_iload_n hx hb dX1_lay_2 rfl (lv_at hl 3 rfl) ?_
      refine lv_iconst (v := nI 4) hx hb dX1_lay_3 (by decide) ?_
      refine lv_icmp_ge (tgt := 31) hx hb dX1_lay_4 (by decide) (fun _ => ?_) (fun c9 => absurd (nI_le (by omega) (by omega)) c9)
      subst hQe
      subst hAe
      exact W.vret hx hb hr (fun t ht hW => ⟨⟨u, rfl, by rw [hu, show i = 4 by omega]; exact bf_lm_k x o g, by rw [ht]; exact hP.sub [0] rfl, hD.sub [0] (by decide) rfl⟩, hS.F ht⟩) hS.2.2 dX1_lay_31
    | succ k ih =>
      intro i hi u H locs ls hu hP hD hS hl
      refine lv_iload_n hx hb dX1_lay_2 rfl (lv_at hl 3 rfl) ?_
      refine lv_iconst (v := nI 4) hx hb dX1_lay_3 (by decide) ?_
      refine lv_icmp_ge (tgt := 31) hx hb dX1_lay_4 (by decide) (fun c9 => absurd c9 (nI_ge (by omega) (by omega))) (fun _ => ?_)
      refine lv_aload_n hx hb dX1_lay_7 rfl (lv_at hl 0 rfl) ?_
      refine lv_iload_n hx hb dX1_lay_8 rfl (lv_at hl 1 rfl) ?_
      refine lv_iload_n hx hb dX1_lay_9 rfl (lv_at hl 3 rfl) ?_
      refine lv_iadd hx hb dX1_lay_10 ?_
      refine cx_top (nI (o + i)) (nI_add o i) ?_
      refine lv_iload_n hx hb dX1_lay_11 rfl (lv_at hl 2 rfl) ?_
      refine lv_bipush (v := nI 24) hx hb dX1_lay_12 (by decide) ?_
      refine lv_bipush (v := nI 8) hx hb dX1_lay_14 (by decide) ?_
      refine lv_iload_n hx hb dX1_lay_16 rfl (lv_at hl 3 rfl) ?_
      refine lv_imul hx hb dX1_lay_17 ?_
      refine lv_isub hx hb dX1_lay_18 ?_
      refine cx_top (nI (24 - 8 * i)) (by rw [pk_mul]; exact pk_sub (by omega)) ?_
      refine lv_iushr hx hb dX1_lay_19 rfl ?_
      refine lv_sipush (v := 255) hx hb dX1_lay_20 (by decide) ?_
      refine lv_iand hx hb dX1_lay_23 ?_
      refine cx_top (bf_by x i) (rfl) ?_
      refine cx_iast hx hb hK hP hD hS 0 0 rfl rfl ((o + i)) (rfl) (by omega) (by omega) dX1_lay_24 (fun H locs hP hD hS => ?_)
      have hP : va_P (dC, dI) vwCl [aI cI hg N (upd u (o + i) (bf_by x i))] H := hP
      have hD : va_D A [aI cI hg N (upd u (o + i) (bf_by x i))] := hD
      refine lv_iinc (v := nI (i + 1)) (lv' := [(3, .int (nI (i + 1))), (0, .ref hg), (1, .int (nI o)), (2, .int x)]) hx hb dX1_lay_25 hl (k := 3) rfl (nI_1 i) (by decide) rfl (fun ls hl => ?_)
      refine lv_goto (tgt := 2) hx hb dX1_lay_28 (by decide) ?_
      exact ih (i + 1) (by omega) _ H locs ls (by rw [hu]; rfl) hP hD hS (lv_sub hl [1, 2, 3, 0] rfl)
  exact loop 4 0 (by omega) g _ _ ls rfl hP hD hS (lv_sub hl [1, 2, 3, 0] rfl)
end
section
/-! BCrypt: processTable, cyclicXorKey -/
set_option maxHeartbeats 4000000 in
set_option maxRecDepth 100000 in
/-- BCrypt.processTable(xl, xr, P) -/
theorem met_ptP (l : Launch) (dC : Nat → ClassId) (dI : Nat → Nat → Nat) (cI cB : ClassId) (h0 aS aP : Nat) (T fP fS : Nat → Int32) (xl xr : Int32) (hT : bf_Ag fP fS T) (sz : Nat) : Met l yX2_processTable (ws_ yX2_processTable cX2_processTable 7 none) ({ frames := 1, cells := 0, slots := 0, locals := 21 } : Room) (cx_Pre (dC, dI) (tyL cI cB) [.ref h0, .int xl, .int xr, .ref aP] [(h0, .inr (2, [.ref aS, .ref aP])), aI cI aS 1024 fS, aI cI aP 18 fP] sz cx_No) (cx_Qv (S := Nat → Int32) (dC, dI) [(h0, .inr (2, [.ref aS, .ref aP])), aI cI aS 1024 fS, aI cI aP 18 fP] sz (fun u => bf_Ag u fS (bf_run bf_w0 0 9 (T, xl, xr)).1) (fun u => [oBC h0 aS aP, aI cI aS 1024 fS, aI cI aP 18 u])) 0 0 (va_A [(h0, .inr (2, [.ref aS, .ref aP])), aI cI aS 1024 fS, aI cI aP 18 fP] sz) := by
  refine Met.ofW (cc := cX2_processTable) (maxL := 7) (ret := none) (by decide) rfl ?_
  intro p e s m args below meth c s₁ B hml hv
  obtain ⟨rfl, hsz, hP, hK, hD0, hE⟩ := hv
  have hx := B.exec
  have hb := B.bytes
  have hr := B.returns
  have hts := atoms_spec (ws := (ws_ yX2_processTable cX2_processTable 7 none)) B.pre
  have hts : ∀ w ∈ lw_all, w.before _ s = true := fun w h => hts w (List.mem_cons_of_mem _ h)
  have hown : s.vm.findClass RX2 = some m.cls := findClass_of_methodNamed B.named
  have hlocks := B.notSynchronized
  subst hsz
  obtain ⟨A, hAe⟩ : ∃ A : Nat → Prop, A = va_A [(h0, .inr (2, [.ref aS, .ref aP])), aI cI aS 1024 fS, aI cI aP 18 fP] s.heap.size := ⟨_, rfl⟩
  have hD : va_D A [(h0, .inr (2, [.ref aS, .ref aP])), aI cI aS 1024 fS, aI cI aP 18 fP] := by rw [hAe]; exact hD0.self
  have hA : ∀ q : Nat, s.heap.size ≤ q → A q := fun q h => by rw [hAe]; exact Or.inr h
  have hS : va_S A s.heap s.heap [] := va_S.rf
  refine cx_Q (fun Q hQe => ?_)
  have hP : va_P (dC, dI) vwCl [(h0, .inr (2, [.ref aS, .ref aP])), aI cI aS 1024 fS, aI cI aP 18 fP] s.heap := hP
  have hl := lv_entry ([.ref h0, .int xl, .int xr, .ref aP]) (n := 7) (Nat.le_of_ble_eq_true rfl)
  rw [lg_entry_eq]
  generalize (lg_sl ([.ref h0, .int xl, .int xr, .ref aP]) ++ List.replicate (7 - (lg_sl ([.ref h0, .int xl, .int xr, .ref aP])).length) Slot.unset).toArray = ls at hl ⊢
  have hl : lv_has ls 7 [(0, .ref h0), (1, .int xl), (2, .int xr), (3, .ref aP)] := hl
  refine lv_aload_n hx hb dX2_processTable_0 rfl (lv_at hl 3 rfl) ?_
  refine va_alen (v := nI 18) hx hb hK hP 2 0 rfl rfl rfl dX2_processTable_1 ?_
  refine lv_istore (lv' := [(4, .int (nI 18)), (0, .ref h0), (1, .int xl), (2, .int xr), (3, .ref aP)]) hx hb dX2_processTable_2 hl (by decide) rfl (fun ls hl => ?_)
  refine lv_iconst (v := nI 0) hx hb dX2_processTable_4 (by decide) ?_
  refine lv_istore (lv' := [(5, .int (nI 0)), (4, .int (nI 18)), (0, .ref h0), (1, .int xl), (2, .int xr), (3, .ref aP)]) hx hb dX2_processTable_5 hl (by decide) rfl (fun ls hl => ?_)
  have loop : ∀ (k i : Nat), i + k = 9 → ∀ (g : Nat → Int32) (vl vr : Int32) (H : Heap) (locs : List Loc) (ls : Array Slot), bf_Ag g fS (bf_run bf_w0 0 i (T, xl, xr)).1 → vl = (bf_run bf_w0 0 i (T, xl, xr)).2.1 → vr = (bf_run bf_w0 0 i (T, xl, xr)).2.2 → va_P (dC, dI) vwCl [(h0, .inr (2, [.ref aS, .ref aP])), aI cI aS 1024 fS, aI cI aP 18 g] H → va_D A [(h0, .inr (2, [.ref aS, .ref aP])), aI cI aS 1024 fS, aI cI aP 18 g] → va_S A s.heap H locs → lv_has ls 7 [(0, .ref h0), (1, .int vl), (2, .int vr), (3, .ref aP), (4, .int (nI 18)), (5, .int (nI (2 * i)))] → W p l e (headSpec (ws_ yX2_processTable cX2_processTable 7 none) ({ frames := 1, cells := 0, slots := 0, locals := 21 } : Room)).room s m ([.ref h0, .int xl, .int xr, .ref aP] : List Value).toArray below meth c H locs 0 0 Q (F0 m 7 ls []) := by
    intro k
    induction k with
    | zero =>
      intro i hi g vl vr H locs ls hg hvl hvr hP hD hS hl
      refine lv_iload hx hb dX2_processTable_7 (lv_at hl 5 rfl) ?_
      refine lv_iload hx hb dX2_processTable_9 (lv_at hl 4 rfl) ?_
      refine lv_icmp_ge (tgt := 108) hx hb dX2_processTable_11 (by decide) (fun _ => ?_) (fun c9 => absurd (nI_le (by omega) (by omega)) c9)
      have hi9 : i = 9 := by omega
      subst hi9
      subst hQe
      subst hAe
      exact W.vret hx hb hr (fun t ht hW => ⟨⟨g, rfl, hg, by rw [ht]; exact hP.sub [0, 1, 2] rfl, hD.sub [0, 1, 2] (by decide) rfl⟩, hS.F ht⟩) hS.2.2 dX2_processTable_108
    | succ k ih =>
      intro i hi g vl vr H locs ls hg hvl hvr hP hD hS hl
      refine lv_iload hx hb dX2_processTable_7 (lv_at hl 5 rfl) ?_
      refine lv_iload hx hb dX2_processTable_9 (lv_at hl 4 rfl) ?_
      refine lv_icmp_ge (tgt := 108) hx hb dX2_processTable_11 (by decide) (fun c9 => absurd c9 (nI_ge (by omega) (by omega))) (fun _ => ?_)
      refine lv_iload_n hx hb dX2_processTable_14 rfl (lv_at hl 1 rfl) ?_
      refine lv_aload_n hx hb dX2_processTable_15 rfl (lv_at hl 0 rfl) ?_
      refine va_get (D := (dC, dI)) (ci := 2) (v := .ref aP) (C := RX2) (T := TX2) (N := 2) hx hb hts in_X2 hown hK hP 0 rfl rfl 1 (by decide) (hts _ q151) (fun _ h9 => h9) rfl dX2_processTable_16 ?_
      refine lv_iconst (v := 0) hx hb dX2_processTable_19 (by decide) ?_
      refine cx_iald hx hb hK hP 2 0 rfl rfl (0) (rfl) (by decide) (by decide) dX2_processTable_20 ?_
      refine lv_ixor hx hb dX2_processTable_21 ?_
      refine lv_topi (fun v0 ev0 => ?_)
      refine lv_istore_n (lv' := [(1, .int v0), (0, .ref h0), (2, .int vr), (3, .ref aP), (4, .int (nI 18)), (5, .int (nI (2 * i)))]) hx hb dX2_processTable_22 rfl hl (by decide) rfl (fun ls hl => ?_)
      refine lv_iconst (v := nI (2 * 0 + 1)) hx hb dX2_processTable_23 (by decide) ?_
      refine lv_istore (lv' := [(6, .int (nI (2 * 0 + 1))), (1, .int v0), (0, .ref h0), (2, .int vr), (3, .ref aP), (4, .int (nI 18)), (5, .int (nI (2 * i)))]) hx hb dX2_processTable_24 hl (by decide) rfl (fun ls hl => ?_)
      have inner : ∀ (k j : Nat), j + k = 8 → ∀ (yl yr : Int32) (ls : Array Slot), yl = (bf_rds g fS (2 * j) (vl, vr)).1 ^^^ g (2 * j) → yr = (bf_rds g fS (2 * j) (vl, vr)).2 → (∀ (yl yr : Int32) (ls : Array Slot), yl = (bf_rds g fS 16 (vl, vr)).1 ^^^ g 16 → yr = (bf_rds g fS 16 (vl, vr)).2 → lv_has ls 7 [(0, .ref h0), (1, .int yl), (2, .int yr), (3, .ref aP), (4, .int (nI 18)), (5, .int (nI (2 * i)))] → W p l e (headSpec (ws_ yX2_processTable cX2_processTable 7 none) ({ frames := 1, cells := 0, slots := 0, locals := 21 } : Room)).room s m ([.ref h0, .int xl, .int xr, .ref aP] : List Value).toArray below meth c H locs 0 0 Q (F0 m 73 ls [])) → lv_has ls 7 [(0, .ref h0), (1, .int yl), (2, .int yr), (3, .ref aP), (4, .int (nI 18)), (5, .int (nI (2 * i))), (6, .int (nI (2 * j + 1)))] → W p l e (headSpec (ws_ yX2_processTable cX2_processTable 7 none) ({ frames := 1, cells := 0, slots := 0, locals := 21 } : Room)).room s m ([.ref h0, .int xl, .int xr, .ref aP] : List Value).toArray below meth c H locs 0 0 Q (F0 m 26 ls []) := by
        intro k
        induction k with
        | zero =>
          intro j hj yl yr ls hyl hyr kx hl
          refine lv_iload hx hb dX2_processTable_26 (lv_at hl 6 rfl) ?_
          refine lv_bipush (v := nI 16) hx hb dX2_processTable_28 (by decide) ?_
          refine lv_icmp_ge (tgt := 73) hx hb dX2_processTable_30 (by decide) (fun _ => ?_) (fun c9 => absurd (nI_le (by omega) (by omega)) c9)
          have hj8 : j = 8 := by omega
          subst hj8
          exact kx yl yr ls hyl hyr (lv_sub hl [0, 1, 2, 3, 4, 5] rfl)
        | succ k ih =>
          intro j hj yl yr ls hyl hyr kx hl
          refine lv_iload hx hb dX2_processTable_26 (lv_at hl 6 rfl) ?_
          refine lv_bipush (v := nI 16) hx hb dX2_processTable_28 (by decide) ?_
          refine lv_icmp_ge (tgt := 73) hx hb dX2_processTable_30 (by decide) (fun c9 => absurd c9 (nI_ge (by omega) (by omega))) (fun _ => ?_)
          refine lv_iload_n hx hb dX2_processTable_33 rfl (lv_at hl 2 rfl) ?_
          refine lv_aload_n hx hb dX2_processTable_34 rfl (lv_at hl 0 rfl) ?_
          refine lv_iload_n hx hb dX2_processTable_35 rfl (lv_at hl 1 rfl) ?_
          refine vp_callSi (va_runV (As := [.int yl]) (rest := [.int yr]) ⟨hx, hb, hml, hown, hts⟩ (met_F l dC dI cI cB h0 aS aP fS yl) (cwV 1 hts (lw_V q212 q214 qs5 q13 q215) rfl rfl rfl (by decide +kernel) ⟨Nat.le_of_ble_eq_true rfl, Nat.le_of_ble_eq_true rfl⟩) (cx_ppV (ci := 2) (q0 := 0) rfl rfl hP hK [0, 1] rfl) rfl rfl hl.1 rfl (lv_room (Nat.le_of_ble_eq_true rfl)) dX2_processTable_36 ⟨Nat.le_of_ble_eq_true rfl, Nat.le_of_ble_eq_true rfl⟩).run (fun r_1 hr_1 => ?_)
          obtain rfl : r_1 = bf_F fS yl := hr_1
          refine lv_aload_n hx hb dX2_processTable_39 rfl (lv_at hl 0 rfl) ?_
          refine va_get (D := (dC, dI)) (ci := 2) (v := .ref aP) (C := RX2) (T := TX2) (N := 2) hx hb hts in_X2 hown hK hP 0 rfl rfl 1 (by decide) (hts _ q151) (fun _ h9 => h9) rfl dX2_processTable_40 ?_
          refine lv_iload hx hb dX2_processTable_43 (lv_at hl 6 rfl) ?_
          refine cx_iald hx hb hK hP 2 0 rfl rfl ((2 * j + 1)) (rfl) (by omega) (by decide) dX2_processTable_45 ?_
          refine lv_ixor hx hb dX2_processTable_46 ?_
          refine lv_ixor hx hb dX2_processTable_47 ?_
          refine lv_topi (fun zr ezr => ?_)
          refine lv_istore_n (lv' := [(2, .int zr), (0, .ref h0), (1, .int yl), (3, .ref aP), (4, .int (nI 18)), (5, .int (nI (2 * i))), (6, .int (nI (2 * j + 1)))]) hx hb dX2_processTable_48 rfl hl (by decide) rfl (fun ls hl => ?_)
          refine lv_iload_n hx hb dX2_processTable_49 rfl (lv_at hl 2 rfl) ?_
          refine lv_aload_n hx hb dX2_processTable_50 rfl (lv_at hl 1 rfl) ?_
          refine lv_iload_n hx hb dX2_processTable_51 rfl (lv_at hl 0 rfl) ?_
          refine vp_callSi (va_runV (As := [.int zr]) (rest := [.int yl]) ⟨hx, hb, hml, hown, hts⟩ (met_F l dC dI cI cB h0 aS aP fS zr) (cwV 1 hts (lw_V q212 q214 qs5 q13 q215) rfl rfl rfl (by decide +kernel) ⟨Nat.le_of_ble_eq_true rfl, Nat.le_of_ble_eq_true rfl⟩) (cx_ppV (ci := 2) (q0 := 0) rfl rfl hP hK [0, 1] rfl) rfl rfl hl.1 rfl (lv_room (Nat.le_of_ble_eq_true rfl)) dX2_processTable_52 ⟨Nat.le_of_ble_eq_true rfl, Nat.le_of_ble_eq_true rfl⟩).run (fun r_2 hr_2 => ?_)
          obtain rfl : r_2 = bf_F fS zr := hr_2
          refine lv_aload_n hx hb dX2_processTable_55 rfl (lv_at hl 1 rfl) ?_
          refine va_get (D := (dC, dI)) (ci := 2) (v := .ref aP) (C := RX2) (T := TX2) (N := 2) hx hb hts in_X2 hown hK hP 0 rfl rfl 1 (by decide) (hts _ q151) (fun _ h9 => h9) rfl dX2_processTable_56 ?_
          refine lv_iload hx hb dX2_processTable_59 (lv_at hl 6 rfl) ?_
          refine lv_iconst (v := 1) hx hb dX2_processTable_61 (by decide) ?_
          refine lv_iadd hx hb dX2_processTable_62 ?_
          refine cx_top (nI (2 * j + 1 + 1)) (nI_1 (2 * j + 1)) ?_
          refine cx_iald hx hb hK hP 2 0 rfl rfl ((2 * j + 1 + 1)) (rfl) (by omega) (by decide) dX2_processTable_63 ?_
          refine lv_ixor hx hb dX2_processTable_64 ?_
          refine lv_ixor hx hb dX2_processTable_65 ?_
          refine lv_topi (fun zl ezl => ?_)
          refine lv_istore_n (lv' := [(1, .int zl), (2, .int zr), (0, .ref h0), (3, .ref aP), (4, .int (nI 18)), (5, .int (nI (2 * i))), (6, .int (nI (2 * j + 1)))]) hx hb dX2_processTable_66 rfl hl (by decide) rfl (fun ls hl => ?_)
          refine lv_iinc (v := nI (2 * (j + 1) + 1)) (lv' := [(6, .int (nI (2 * (j + 1) + 1))), (1, .int zl), (2, .int zr), (0, .ref h0), (3, .ref aP), (4, .int (nI 18)), (5, .int (nI (2 * i)))]) hx hb dX2_processTable_67 hl (k := 6) rfl (by rw [show 2 * (j + 1) + 1 = 2 * j + 1 + 2 by omega]; exact nI_add (2 * j + 1) 2) (by decide) rfl (fun ls hl => ?_)
          refine lv_goto (tgt := 26) hx hb dX2_processTable_70 (by decide) ?_
          obtain ⟨g1, g2⟩ := bf_two hyl hyr ezr ezl
          exact ih (j + 1) (by omega) zl zr ls g1 g2 kx (lv_sub hl [3, 1, 2, 4, 5, 6, 0] rfl)
      refine inner 8 0 rfl _ _ ls (ev0) (rfl) (fun zl zr ls hzl hzr hl => ?_) (lv_sub hl [2, 1, 3, 4, 5, 6, 0] rfl)
      refine lv_iload_n hx hb dX2_processTable_73 rfl (lv_at hl 2 rfl) ?_
      refine lv_aload_n hx hb dX2_processTable_74 rfl (lv_at hl 0 rfl) ?_
      refine va_get (D := (dC, dI)) (ci := 2) (v := .ref aP) (C := RX2) (T := TX2) (N := 2) hx hb hts in_X2 hown hK hP 0 rfl rfl 1 (by decide) (hts _ q151) (fun _ h9 => h9) rfl dX2_processTable_75 ?_
      refine lv_bipush (v := 17) hx hb dX2_processTable_78 (by decide) ?_
      refine cx_iald hx hb hK hP 2 0 rfl rfl (17) (rfl) (by decide) (by decide) dX2_processTable_80 ?_
      refine lv_ixor hx hb dX2_processTable_81 ?_
      refine lv_topi (fun z3 ez3 => ?_)
      refine lv_istore_n (lv' := [(2, .int z3), (0, .ref h0), (1, .int zl), (3, .ref aP), (4, .int (nI 18)), (5, .int (nI (2 * i)))]) hx hb dX2_processTable_82 rfl hl (by decide) rfl (fun ls hl => ?_)
      refine lv_aload_n hx hb dX2_processTable_83 rfl (lv_at hl 3 rfl) ?_
      refine lv_iload hx hb dX2_processTable_84 (lv_at hl 5 rfl) ?_
      refine lv_iload_n hx hb dX2_processTable_86 rfl (lv_at hl 0 rfl) ?_
      refine cx_iast hx hb hK hP hD hS 2 0 rfl rfl ((2 * i)) (rfl) (by omega) (by decide) dX2_processTable_87 (fun H locs hP hD hS => ?_)
      have hP : va_P (dC, dI) vwCl [(h0, .inr (2, [.ref aS, .ref aP])), aI cI aS 1024 fS, aI cI aP 18 (upd g (2 * i) z3)] H := hP
      have hD : va_D A [(h0, .inr (2, [.ref aS, .ref aP])), aI cI aS 1024 fS, aI cI aP 18 (upd g (2 * i) z3)] := hD
      refine lv_aload_n hx hb dX2_processTable_88 rfl (lv_at hl 3 rfl) ?_
      refine lv_iload hx hb dX2_processTable_89 (lv_at hl 5 rfl) ?_
      refine lv_iconst (v := 1) hx hb dX2_processTable_91 (by decide) ?_
      refine lv_iadd hx hb dX2_processTable_92 ?_
      refine cx_top (nI (2 * i + 1)) (nI_1 (2 * i)) ?_
      refine lv_iload_n hx hb dX2_processTable_93 rfl (lv_at hl 2 rfl) ?_
      refine cx_iast hx hb hK hP hD hS 2 0 rfl rfl ((2 * i + 1)) (rfl) (by omega) (by decide) dX2_processTable_94 (fun H locs hP hD hS => ?_)
      have hP : va_P (dC, dI) vwCl [(h0, .inr (2, [.ref aS, .ref aP])), aI cI aS 1024 fS, aI cI aP 18 (upd (upd g (2 * i) z3) (2 * i + 1) zl)] H := hP
      have hD : va_D A [(h0, .inr (2, [.ref aS, .ref aP])), aI cI aS 1024 fS, aI cI aP 18 (upd (upd g (2 * i) z3) (2 * i + 1) zl)] := hD
      refine lv_iload_n hx hb dX2_processTable_95 rfl (lv_at hl 2 rfl) ?_
      refine lv_istore_n (lv' := [(2, .int zl), (0, .ref h0), (1, .int zl), (3, .ref aP), (4, .int (nI 18)), (5, .int (nI (2 * i)))]) hx hb dX2_processTable_96 rfl hl (by decide) rfl (fun ls hl => ?_)
      refine lv_aload_n hx hb dX2_processTable_97 rfl (lv_at hl 3 rfl) ?_
      refine lv_iload hx hb dX2_processTable_98 (lv_at hl 5 rfl) ?_
      refine cx_iald hx hb hK hP 2 0 rfl rfl ((2 * i)) (rfl) (by omega) (by decide) dX2_processTable_100 ?_
      refine cx_top (z3) (by rw [pk_un (by omega), pk_us]) ?_
      refine lv_istore_n (lv' := [(1, .int z3), (2, .int zl), (0, .ref h0), (3, .ref aP), (4, .int (nI 18)), (5, .int (nI (2 * i)))]) hx hb dX2_processTable_101 rfl hl (by decide) rfl (fun ls hl => ?_)
      refine lv_iinc (v := nI (2 * (i + 1))) (lv' := [(5, .int (nI (2 * (i + 1)))), (1, .int z3), (2, .int zl), (0, .ref h0), (3, .ref aP), (4, .int (nI 18))]) hx hb dX2_processTable_102 hl (k := 5) rfl (nI_add (2 * i) 2) (by decide) rfl (fun ls hl => ?_)
      refine lv_goto (tgt := 7) hx hb dX2_processTable_105 (by decide) ?_
      obtain ⟨b1, b2, b3⟩ := bf_blkP (w := bf_w0) (k := i) (by omega) hg (hvl.trans (bf_x0 _)) (hvr.trans (bf_x0 _)) hzl hzr ez3
      exact ih (i + 1) (by omega) _ z3 zl H locs ls b1 b2 b3 hP hD hS (lv_sub hl [3, 1, 2, 4, 5, 0] rfl)
  exact loop 9 0 (by omega) fP xl xr _ _ ls hT rfl rfl hP hD hS (lv_sub hl [2, 3, 4, 5, 1, 0] rfl)
set_option maxHeartbeats 4000000 in
set_option maxRecDepth 100000 in
/-- BCrypt.processTable(xl, xr, S) -/
theorem met_ptS (l : Launch) (dC : Nat → ClassId) (dI : Nat → Nat → Nat) (cI cB : ClassId) (h0 aS aP : Nat) (T fP fS : Nat → Int32) (xl xr : Int32) (hT : bf_Ag fP fS T) (sz : Nat) : Met l yX2_processTable (ws_ yX2_processTable cX2_processTable 7 none) ({ frames := 1, cells := 0, slots := 0, locals := 21 } : Room) (cx_Pre (dC, dI) (tyL cI cB) [.ref h0, .int xl, .int xr, .ref aS] [(h0, .inr (2, [.ref aS, .ref aP])), aI cI aS 1024 fS, aI cI aP 18 fP] sz cx_No) (cx_Qv (S := Nat → Int32) (dC, dI) [(h0, .inr (2, [.ref aS, .ref aP])), aI cI aS 1024 fS, aI cI aP 18 fP] sz (fun u => bf_Ag fP u (bf_run bf_w0 9 512 (T, xl, xr)).1) (fun u => [oBC h0 aS aP, aI cI aS 1024 u, aI cI aP 18 fP])) 0 0 (va_A [(h0, .inr (2, [.ref aS, .ref aP])), aI cI aS 1024 fS, aI cI aP 18 fP] sz) := by
  refine Met.ofW (cc := cX2_processTable) (maxL := 7) (ret := none) (by decide) rfl ?_
  intro p e s m args below meth c s₁ B hml hv
  obtain ⟨rfl, hsz, hP, hK, hD0, hE⟩ := hv
  have hx := B.exec
  have hb := B.bytes
  have hr := B.returns
  have hts := atoms_spec (ws := (ws_ yX2_processTable cX2_processTable 7 none)) B.pre
  have hts : ∀ w ∈ lw_all, w.before _ s = true := fun w h => hts w (List.mem_cons_of_mem _ h)
  have hown : s.vm.findClass RX2 = some m.cls := findClass_of_methodNamed B.named
  have hlocks := B.notSynchronized
  subst hsz
  obtain ⟨A, hAe⟩ : ∃ A : Nat → Prop, A = va_A [(h0, .inr (2, [.ref aS, .ref aP])), aI cI aS 1024 fS, aI cI aP 18 fP] s.heap.size := ⟨_, rfl⟩
  have hD : va_D A [(h0, .inr (2, [.ref aS, .ref aP])), aI cI aS 1024 fS, aI cI aP 18 fP] := by rw [hAe]; exact hD0.self
  have hA : ∀ q : Nat, s.heap.size ≤ q → A q := fun q h => by rw [hAe]; exact Or.inr h
  have hS : va_S A s.heap s.heap [] := va_S.rf
  refine cx_Q (fun Q hQe => ?_)
  have hP : va_P (dC, dI) vwCl [(h0, .inr (2, [.ref aS, .ref aP])), aI cI aS 1024 fS, aI cI aP 18 fP] s.heap := hP
  have hl := lv_entry ([.ref h0, .int xl, .int xr, .ref aS]) (n := 7) (Nat.le_of_ble_eq_true rfl)
  rw [lg_entry_eq]
  generalize (lg_sl ([.ref h0, .int xl, .int xr, .ref aS]) ++ List.replicate (7 - (lg_sl ([.ref h0, .int xl, .int xr, .ref aS])).length) Slot.unset).toArray = ls at hl ⊢
  have hl : lv_has ls 7 [(0, .ref h0), (1, .int xl), (2, .int xr), (3, .ref aS)] := hl
  refine lv_aload_n hx hb dX2_processTable_0 rfl (lv_at hl 3 rfl) ?_
  refine va_alen (v := nI 1024) hx hb hK hP 1 0 rfl rfl rfl dX2_processTable_1 ?_
  refine lv_istore (lv' := [(4, .int (nI 1024)), (0, .ref h0), (1, .int xl), (2, .int xr), (3, .ref aS)]) hx hb dX2_processTable_2 hl (by decide) rfl (fun ls hl => ?_)
  refine lv_iconst (v := nI 0) hx hb dX2_processTable_4 (by decide) ?_
  refine lv_istore (lv' := [(5, .int (nI 0)), (4, .int (nI 1024)), (0, .ref h0), (1, .int xl), (2, .int xr), (3, .ref aS)]) hx hb dX2_processTable_5 hl (by decide) rfl (fun ls hl => ?_)
  have loop : ∀ (k i : Nat), i + k = 512 → ∀ (g : Nat → Int32) (vl vr : Int32) (H : Heap) (locs : List Loc) (ls : Array Slot), bf_Ag fP g (bf_run bf_w0 9 i (T, xl, xr)).1 → vl = (bf_run bf_w0 9 i (T, xl, xr)).2.1 → vr = (bf_run bf_w0 9 i (T, xl, xr)).2.2 → va_P (dC, dI) vwCl [(h0, .inr (2, [.ref aS, .ref aP])), aI cI aS 1024 g, aI cI aP 18 fP] H → va_D A [(h0, .inr (2, [.ref aS, .ref aP])), aI cI aS 1024 g, aI cI aP 18 fP] → va_S A s.heap H locs → lv_has ls 7 [(0, .ref h0), (1, .int vl), (2, .int vr), (3, .ref aS), (4, .int (nI 1024)), (5, .int (nI (2 * i)))] → W p l e (headSpec (ws_ yX2_processTable cX2_processTable 7 none) ({ frames := 1, cells := 0, slots := 0, locals := 21 } : Room)).room s m ([.ref h0, .int xl, .int xr, .ref aS] : List Value).toArray below meth c H locs 0 0 Q (F0 m 7 ls []) := by
    intro k
    induction k with
    | zero =>
      intro i hi g vl vr H locs ls hg hvl hvr hP hD hS hl
      refine lv_iload hx hb dX2_processTable_7 (lv_at hl 5 rfl) ?_
      refine lv_iload hx hb dX2_processTable_9 (lv_at hl 4 rfl) ?_
      refine lv_icmp_ge (tgt := 108) hx hb dX2_processTable_11 (by decide) (fun _ => ?_) (fun c9 => absurd (nI_le (by omega) (by omega)) c9)
      have hi9 : i = 512 := by omega
      subst hi9
      subst hQe
      subst hAe
      exact W.vret hx hb hr (fun t ht hW => ⟨⟨g, rfl, hg, by rw [ht]; exact hP.sub [0, 1, 2] rfl, hD.sub [0, 1, 2] (by decide) rfl⟩, hS.F ht⟩) hS.2.2 dX2_processTable_108
    | succ k ih =>
      intro i hi g vl vr H locs ls hg hvl hvr hP hD hS hl
      refine lv_iload hx hb dX2_processTable_7 (lv_at hl 5 rfl) ?_
      refine lv_iload hx hb dX2_processTable_9 (lv_at hl 4 rfl) ?_
      refine lv_icmp_ge (tgt := 108) hx hb dX2_processTable_11 (by decide) (fun c9 => absurd c9 (nI_ge (by omega) (by omega))) (fun _ => ?_)
      refine lv_iload_n hx hb dX2_processTable_14 rfl (lv_at hl 1 rfl) ?_
      refine lv_aload_n hx hb dX2_processTable_15 rfl (lv_at hl 0 rfl) ?_
      refine va_get (D := (dC, dI)) (ci := 2) (v := .ref aP) (C := RX2) (T := TX2) (N := 2) hx hb hts in_X2 hown hK hP 0 rfl rfl 1 (by decide) (hts _ q151) (fun _ h9 => h9) rfl dX2_processTable_16 ?_
      refine lv_iconst (v := 0) hx hb dX2_processTable_19 (by decide) ?_
      refine cx_iald hx hb hK hP 2 0 rfl rfl (0) (rfl) (by decide) (by decide) dX2_processTable_20 ?_
      refine lv_ixor hx hb dX2_processTable_21 ?_
      refine lv_topi (fun v0 ev0 => ?_)
      refine lv_istore_n (lv' := [(1, .int v0), (0, .ref h0), (2, .int vr), (3, .ref aS), (4, .int (nI 1024)), (5, .int (nI (2 * i)))]) hx hb dX2_processTable_22 rfl hl (by decide) rfl (fun ls hl => ?_)
      refine lv_iconst (v := nI (2 * 0 + 1)) hx hb dX2_processTable_23 (by decide) ?_
      refine lv_istore (lv' := [(6, .int (nI (2 * 0 + 1))), (1, .int v0), (0, .ref h0), (2, .int vr), (3, .ref aS), (4, .int (nI 1024)), (5, .int (nI (2 * i)))]) hx hb dX2_processTable_24 hl (by decide) rfl (fun ls hl => ?_)
      have inner : ∀ (k j : Nat), j + k = 8 → ∀ (yl yr : Int32) (ls : Array Slot), yl = (bf_rds fP g (2 * j) (vl, vr)).1 ^^^ fP (2 * j) → yr = (bf_rds fP g (2 * j) (vl, vr)).2 → (∀ (yl yr : Int32) (ls : Array Slot), yl = (bf_rds fP g 16 (vl, vr)).1 ^^^ fP 16 → yr = (bf_rds fP g 16 (vl, vr)).2 → lv_has ls 7 [(0, .ref h0), (1, .int yl), (2, .int yr), (3, .ref aS), (4, .int (nI 1024)), (5, .int (nI (2 * i)))] → W p l e (headSpec (ws_ yX2_processTable cX2_processTable 7 none) ({ frames := 1, cells := 0, slots := 0, locals := 21 } : Room)).room s m ([.ref h0, .int xl, .int xr, .ref aS] : List Value).toArray below meth c H locs 0 0 Q (F0 m 73 ls [])) → lv_has ls 7 [(0, .ref h0), (1, .int yl), (2, .int yr), (3, .ref aS), (4, .int (nI 1024)), (5, .int (nI (2 * i))), (6, .int (nI (2 * j + 1)))] → W p l e (headSpec (ws_ yX2_processTable cX2_processTable 7 none) ({ frames := 1, cells := 0, slots := 0, locals := 21 } : Room)).room s m ([.ref h0, .int xl, .int xr, .ref aS] : List Value).toArray below meth c H locs 0 0 Q (F0 m 26 ls []) := by
        intro k
        induction k with
        | zero =>
          intro j hj yl yr ls hyl hyr kx hl
          refine lv_iload hx hb dX2_processTable_26 (lv_at hl 6 rfl) ?_
          refine lv_bipush (v := nI 16) hx hb dX2_processTable_28 (by decide) ?_
          refine lv_icmp_ge (tgt := 73) hx hb dX2_processTable_30 (by decide) (fun _ => ?_) (fun c9 => absurd (nI_le (by omega) (by omega)) c9)
          have hj8 : j = 8 := by omega
          subst hj8
          exact kx yl yr ls hyl hyr (lv_sub hl [0, 1, 2, 3, 4, 5] rfl)
        | succ k ih =>
          intro j hj yl yr ls hyl hyr kx hl
          refine lv_iload hx hb dX2_processTable_26 (lv_at hl 6 rfl) ?_
          refine lv_bipush (v := nI 16) hx hb dX2_processTable_28 (by decide) ?_
          refine lv_icmp_ge (tgt := 73) hx hb dX2_processTable_30 (by decide) (fun c9 => absurd c9 (nI_ge (by omega) (by omega))) (fun _ => ?_)
          refine lv_iload_n hx hb dX2_processTable_33 rfl (lv_at hl 2 rfl) ?_
          refine lv_aload_n hx hb dX2_processTable_34 rfl (lv_at hl 0 rfl) ?_
          refine lv_iload_n hx hb dX2_processTable_35 rfl (lv_at hl 1 rfl) ?_
          refine vp_callSi (va_runV (As := [.int yl]) (rest := [.int yr]) ⟨hx, hb, hml, hown, hts⟩ (met_F l dC dI cI cB h0 aS aP g yl) (cwV 1 hts (lw_V q212 q214 qs5 q13 q215) rfl rfl rfl (by decide +kernel) ⟨Nat.le_of_ble_eq_true rfl, Nat.le_of_ble_eq_true rfl⟩) (cx_ppV (ci := 2) (q0 := 0) rfl rfl hP hK [0, 1] rfl) rfl rfl hl.1 rfl (lv_room (Nat.le_of_ble_eq_true rfl)) dX2_processTable_36 ⟨Nat.le_of_ble_eq_true rfl, Nat.le_of_ble_eq_true rfl⟩).run (fun r_1 hr_1 => ?_)
          obtain rfl : r_1 = bf_F g yl := hr_1
          refine lv_aload_n hx hb dX2_processTable_39 rfl (lv_at hl 0 rfl) ?_
          refine va_get (D := (dC, dI)) (ci := 2) (v := .ref aP) (C := RX2) (T := TX2) (N := 2) hx hb hts in_X2 hown hK hP 0 rfl rfl 1 (by decide) (hts _ q151) (fun _ h9 => h9) rfl dX2_processTable_40 ?_
          refine lv_iload hx hb dX2_processTable_43 (lv_at hl 6 rfl) ?_
          refine cx_iald hx hb hK hP 2 0 rfl rfl ((2 * j + 1)) (rfl) (by omega) (by decide) dX2_processTable_45 ?_
          refine lv_ixor hx hb dX2_processTable_46 ?_
          refine lv_ixor hx hb dX2_processTable_47 ?_
          refine lv_topi (fun zr ezr => ?_)
          refine lv_istore_n (lv' := [(2, .int zr), (0, .ref h0), (1, .int yl), (3, .ref aS), (4, .int (nI 1024)), (5, .int (nI (2 * i))), (6, .int (nI (2 * j + 1)))]) hx hb dX2_processTable_48 rfl hl (by decide) rfl (fun ls hl => ?_)
          refine lv_iload_n hx hb dX2_processTable_49 rfl (lv_at hl 2 rfl) ?_
          refine lv_aload_n hx hb dX2_processTable_50 rfl (lv_at hl 1 rfl) ?_
          refine lv_iload_n hx hb dX2_processTable_51 rfl (lv_at hl 0 rfl) ?_
          refine vp_callSi (va_runV (As := [.int zr]) (rest := [.int yl]) ⟨hx, hb, hml, hown, hts⟩ (met_F l dC dI cI cB h0 aS aP g zr) (cwV 1 hts (lw_V q212 q214 qs5 q13 q215) rfl rfl rfl (by decide +kernel) ⟨Nat.le_of_ble_eq_true rfl, Nat.le_of_ble_eq_true rfl⟩) (cx_ppV (ci := 2) (q0 := 0) rfl rfl hP hK [0, 1] rfl) rfl rfl hl.1 rfl (lv_room (Nat.le_of_ble_eq_true rfl)) dX2_processTable_52 ⟨Nat.le_of_ble_eq_true rfl, Nat.le_of_ble_eq_true rfl⟩).run (fun r_2 hr_2 => ?_)
          obtain rfl : r_2 = bf_F g zr := hr_2
          refine lv_aload_n hx hb dX2_processTable_55 rfl (lv_at hl 1 rfl) ?_
          refine va_get (D := (dC, dI)) (ci := 2) (v := .ref aP) (C := RX2) (T := TX2) (N := 2) hx hb hts in_X2 hown hK hP 0 rfl rfl 1 (by decide) (hts _ q151) (fun _ h9 => h9) rfl dX2_processTable_56 ?_
          refine lv_iload hx hb dX2_processTable_59 (lv_at hl 6 rfl) ?_
          refine lv_iconst (v := 1) hx hb dX2_processTable_61 (by decide) ?_
          refine lv_iadd hx hb dX2_processTable_62 ?_
          refine cx_top (nI (2 * j + 1 + 1)) (nI_1 (2 * j + 1)) ?_
          refine cx_iald hx hb hK hP 2 0 rfl rfl ((2 * j + 1 + 1)) (rfl) (by omega) (by decide) dX2_processTable_63 ?_
          refine lv_ixor hx hb dX2_processTable_64 ?_
          refine lv_ixor hx hb dX2_processTable_65 ?_
          refine lv_topi (fun zl ezl => ?_)
          refine lv_istore_n (lv' := [(1, .int zl), (2, .int zr), (0, .ref h0), (3, .ref aS), (4, .int (nI 1024)), (5, .int (nI (2 * i))), (6, .int (nI (2 * j + 1)))]) hx hb dX2_processTable_66 rfl hl (by decide) rfl (fun ls hl => ?_)
          refine lv_iinc (v := nI (2 * (j + 1) + 1)) (lv' := [(6, .int (nI (2 * (j + 1) + 1))), (1, .int zl), (2, .int zr), (0, .ref h0), (3, .ref aS), (4, .int (nI 1024)), (5, .int (nI (2 * i)))]) hx hb dX2_processTable_67 hl (k := 6) rfl (by rw [show 2 * (j + 1) + 1 = 2 * j + 1 + 2 by omega]; exact nI_add (2 * j + 1) 2) (by decide) rfl (fun ls hl => ?_)
          refine lv_goto (tgt := 26) hx hb dX2_processTable_70 (by decide) ?_
          obtain ⟨g1, g2⟩ := bf_two hyl hyr ezr ezl
          exact ih (j + 1) (by omega) zl zr ls g1 g2 kx (lv_sub hl [3, 1, 2, 4, 5, 6, 0] rfl)
      refine inner 8 0 rfl _ _ ls (ev0) (rfl) (fun zl zr ls hzl hzr hl => ?_) (lv_sub hl [2, 1, 3, 4, 5, 6, 0] rfl)
      refine lv_iload_n hx hb dX2_processTable_73 rfl (lv_at hl 2 rfl) ?_
      refine lv_aload_n hx hb dX2_processTable_74 rfl (lv_at hl 0 rfl) ?_
      refine va_get (D := (dC, dI)) (ci := 2) (v := .ref aP) (C := RX2) (T := TX2) (N := 2) hx hb hts in_X2 hown hK hP 0 rfl rfl 1 (by decide) (hts _ q151) (fun _ h9 => h9) rfl dX2_processTable_75 ?_
      refine lv_bipush (v := 17) hx hb dX2_processTable_78 (by decide) ?_
      refine cx_iald hx hb hK hP 2 0 rfl rfl (17) (rfl) (by decide) (by decide) dX2_processTable_80 ?_
      refine lv_ixor hx hb dX2_processTable_81 ?_
      refine lv_topi (fun z3 ez3 => ?_)
      refine lv_istore_n (lv' := [(2, .int z3), (0, .ref h0), (1, .int zl), (3, .ref aS), (4, .int (nI 1024)), (5, .int (nI (2 * i)))]) hx hb dX2_processTable_82 rfl hl (by decide) rfl (fun ls hl => ?_)
      refine lv_aload_n hx hb dX2_processTable_83 rfl (lv_at hl 3 rfl) ?_
      refine lv_iload hx hb dX2_processTable_84 (lv_at hl 5 rfl) ?_
      refine lv_iload_n hx hb dX2_processTable_86 rfl (lv_at hl 0 rfl) ?_
      refine cx_iast hx hb hK hP hD hS 1 0 rfl rfl ((2 * i)) (rfl) (by omega) (by decide) dX2_processTable_87 (fun H locs hP hD hS => ?_)
      have hP : va_P (dC, dI) vwCl [(h0, .inr (2, [.ref aS, .ref aP])), aI cI aS 1024 (upd g (2 * i) z3), aI cI aP 18 fP] H := hP
      have hD : va_D A [(h0, .inr (2, [.ref aS, .ref aP])), aI cI aS 1024 (upd g (2 * i) z3), aI cI aP 18 fP] := hD
      refine lv_aload_n hx hb dX2_processTable_88 rfl (lv_at hl 3 rfl) ?_
      refine lv_iload hx hb dX2_processTable_89 (lv_at hl 5 rfl) ?_
      refine lv_iconst (v := 1) hx hb dX2_processTable_91 (by decide) ?_
      refine lv_iadd hx hb dX2_processTable_92 ?_
      refine cx_top (nI (2 * i + 1)) (nI_1 (2 * i)) ?_
      refine lv_iload_n hx hb dX2_processTable_93 rfl (lv_at hl 2 rfl) ?_
      refine cx_iast hx hb hK hP hD hS 1 0 rfl rfl ((2 * i + 1)) (rfl) (by omega) (by decide) dX2_processTable_94 (fun H locs hP hD hS => ?_)
      have hP : va_P (dC, dI) vwCl [(h0, .inr (2, [.ref aS, .ref aP])), aI cI aS 1024 (upd (upd g (2 * i) z3) (2 * i + 1) zl), aI cI aP 18 fP] H := hP
      have hD : va_D A [(h0, .inr (2, [.ref aS, .ref aP])), aI cI aS 1024 (upd (upd g (2 * i) z3) (2 * i + 1) zl), aI cI aP 18 fP] := hD
      refine lv_iload_n hx hb dX2_processTable_95 rfl (lv_at hl 2 rfl) ?_
      refine lv_istore_n (lv' := [(2, .int zl), (0, .ref h0), (1, .int zl), (3, .ref aS), (4, .int (nI 1024)), (5, .int (nI (2 * i)))]) hx hb dX2_processTable_96 rfl hl (by decide) rfl (fun ls hl => ?_)
      refine lv_aload_n hx hb dX2_processTable_97 rfl (lv_at hl 3 rfl) ?_
      refine lv_iload hx hb dX2_processTable_98 (lv_at hl 5 rfl) ?_
      refine cx_iald hx hb hK hP 1 0 rfl rfl ((2 * i)) (rfl) (by omega) (by decide) dX2_processTable_100 ?_
      refine cx_top (z3) (by rw [pk_un (by omega), pk_us]) ?_
      refine lv_istore_n (lv' := [(1, .int z3), (2, .int zl), (0, .ref h0), (3, .ref aS), (4, .int (nI 1024)), (5, .int (nI (2 * i)))]) hx hb dX2_processTable_101 rfl hl (by decide) rfl (fun ls hl => ?_)
      refine lv_iinc (v := nI (2 * (i + 1))) (lv' := [(5, .int (nI (2 * (i + 1)))), (1, .int z3), (2, .int zl), (0, .ref h0), (3, .ref aS), (4, .int (nI 1024))]) hx hb dX2_processTable_102 hl (k := 5) rfl (nI_add (2 * i) 2) (by decide) rfl (fun ls hl => ?_)
      refine lv_goto (tgt := 7) hx hb dX2_processTable_105 (by decide) ?_
      obtain ⟨b1, b2, b3⟩ := bf_blkS (w := bf_w0) (k := i) hg (hvl.trans (bf_x0 _)) (hvr.trans (bf_x0 _)) hzl hzr ez3
      exact ih (i + 1) (by omega) _ z3 zl H locs ls b1 b2 b3 hP hD hS (lv_sub hl [3, 1, 2, 4, 5, 0] rfl)
  exact loop 512 0 (by omega) fS xl xr _ _ ls hT rfl rfl hP hD hS (lv_sub hl [2, 3, 4, 5, 1, 0] rfl)
set_option maxHeartbeats 4000000 in
set_option maxRecDepth 100000 in
/-- BCrypt.cyclicXorKey -/
theorem met_cx (l : Launch) (dC : Nat → ClassId) (dI : Nat → Nat → Nat) (cI cB : ClassId) (h0 aS aP aK n : Nat) (fP g : Nat → Int32) (hn : 0 < n) (hn2 : n < 2 ^ 30) (sz : Nat) : Met l yX2_cyclicXorKey (ws_ yX2_cyclicXorKey cX2_cyclicXorKey 7 none) ({ frames := 0, cells := 0, slots := 0, locals := 0 } : Room) (cx_Pre (dC, dI) (tyL cI cB) [.ref h0, .ref aK] [(h0, .inr (2, [.ref aS, .ref aP])), aI cI aP 18 fP, aI cB aK n g] sz cx_No) (cx_Qv (S := Nat → Int32) (dC, dI) [(h0, .inr (2, [.ref aS, .ref aP])), aI cI aP 18 fP, aI cB aK n g] sz (fun u => ∀ i, i < 18 → u i = fP i ^^^ bf_kf (fun j => g j &&& 255) n i) (fun u => [oBC h0 aS aP, aI cI aP 18 u, aI cB aK n g])) 0 0 (va_A [(h0, .inr (2, [.ref aS, .ref aP])), aI cI aP 18 fP, aI cB aK n g] sz) := by
  refine Met.ofW (cc := cX2_cyclicXorKey) (maxL := 7) (ret := none) (by decide) rfl ?_
  intro p e s m args below meth c s₁ B hml hv
  obtain ⟨rfl, hsz, hP, hK, hD0, hE⟩ := hv
  have hx := B.exec
  have hb := B.bytes
  have hr := B.returns
  have hts := atoms_spec (ws := (ws_ yX2_cyclicXorKey cX2_cyclicXorKey 7 none)) B.pre
  have hts : ∀ w ∈ lw_all, w.before _ s = true := fun w h => hts w (List.mem_cons_of_mem _ h)
  have hown : s.vm.findClass RX2 = some m.cls := findClass_of_methodNamed B.named
  have hlocks := B.notSynchronized
  subst hsz
  obtain ⟨A, hAe⟩ : ∃ A : Nat → Prop, A = va_A [(h0, .inr (2, [.ref aS, .ref aP])), aI cI aP 18 fP, aI cB aK n g] s.heap.size := ⟨_, rfl⟩
  have hD : va_D A [(h0, .inr (2, [.ref aS, .ref aP])), aI cI aP 18 fP, aI cB aK n g] := by rw [hAe]; exact hD0.self
  have hA : ∀ q : Nat, s.heap.size ≤ q → A q := fun q h => by rw [hAe]; exact Or.inr h
  have hS : va_S A s.heap s.heap [] := va_S.rf
  refine cx_Q (fun Q hQe => ?_)
  have hP : va_P (dC, dI) vwCl [(h0, .inr (2, [.ref aS, .ref aP])), aI cI aP 18 fP, aI cB aK n g] s.heap := hP
  have hl := lv_entry ([.ref h0, .ref aK]) (n := 7) (Nat.le_of_ble_eq_true rfl)
  rw [lg_entry_eq]
  generalize (lg_sl ([.ref h0, .ref aK]) ++ List.replicate (7 - (lg_sl ([.ref h0, .ref aK])).length) Slot.unset).toArray = ls at hl ⊢
  have hl : lv_has ls 7 [(0, .ref h0), (1, .ref aK)] := hl
  refine lv_aload_n hx hb dX2_cyclicXorKey_0 rfl (lv_at hl 1 rfl) ?_
  refine va_alen (v := nI n) hx hb hK hP 2 1 rfl rfl rfl dX2_cyclicXorKey_1 ?_
  refine lv_istore_n (lv' := [(2, .int (nI n)), (0, .ref h0), (1, .ref aK)]) hx hb dX2_cyclicXorKey_2 rfl hl (by decide) rfl (fun ls hl => ?_)
  refine lv_iconst (v := nI 0) hx hb dX2_cyclicXorKey_3 (by decide) ?_
  refine lv_istore_n (lv' := [(3, .int (nI 0)), (2, .int (nI n)), (0, .ref h0), (1, .ref aK)]) hx hb dX2_cyclicXorKey_4 rfl hl (by decide) rfl (fun ls hl => ?_)
  refine lv_iconst (v := nI 0) hx hb dX2_cyclicXorKey_5 (by decide) ?_
  refine lv_istore (lv' := [(4, .int (nI 0)), (3, .int (nI 0)), (2, .int (nI n)), (0, .ref h0), (1, .ref aK)]) hx hb dX2_cyclicXorKey_6 hl (by decide) rfl (fun ls hl => ?_)
  have loop : ∀ (k i : Nat), i + k = 18 → ∀ (f : Nat → Int32) (H : Heap) (locs : List Loc) (ls : Array Slot), (∀ j, f j = if j < i then fP j ^^^ bf_kf (fun j => g j &&& 255) n j else fP j) → va_P (dC, dI) vwCl [(h0, .inr (2, [.ref aS, .ref aP])), aI cI aP 18 f, aI cB aK n g] H → va_D A [(h0, .inr (2, [.ref aS, .ref aP])), aI cI aP 18 f, aI cB aK n g] → va_S A s.heap H locs → lv_has ls 7 [(0, .ref h0), (1, .ref aK), (2, .int (nI n)), (3, .int (nI ((4 * i) % n))), (4, .int (nI i))] → W p l e (headSpec (ws_ yX2_cyclicXorKey cX2_cyclicXorKey 7 none) ({ frames := 0, cells := 0, slots := 0, locals := 0 } : Room)).room s m ([.ref h0, .ref aK] : List Value).toArray below meth c H locs 0 0 Q (F0 m 8 ls []) := by
    intro k
    induction k with
    | zero =>
      intro i hi f H locs ls hf hP hD hS hl
      refine lv_iload hx hb dX2_cyclicXorKey_8 (lv_at hl 4 rfl) ?_
      refine lv_bipush (v := nI 18) hx hb dX2_cyclicXorKey_10 (by decide) ?_
      refine lv_icmp_ge (tgt := 76) hx hb dX2_cyclicXorKey_12 (by decide) (fun _ => ?_) (fun c9 => absurd (nI_le (by omega) (by omega)) c9)
      subst hQe
      subst hAe
      exact W.vret hx hb hr (fun t ht hW => ⟨⟨f, rfl, fun j hj => by rw [hf j, if_pos (by omega)], by rw [ht]; exact hP.sub [0, 1, 2] rfl, hD.sub [0, 1, 2] (by decide) rfl⟩, hS.F ht⟩) hS.2.2 dX2_cyclicXorKey_76
    | succ k ih =>
      intro i hi f H locs ls hf hP hD hS hl
      refine lv_iload hx hb dX2_cyclicXorKey_8 (lv_at hl 4 rfl) ?_
      refine lv_bipush (v := nI 18) hx hb dX2_cyclicXorKey_10 (by decide) ?_
      refine lv_icmp_ge (tgt := 76) hx hb dX2_cyclicXorKey_12 (by decide) (fun c9 => absurd c9 (nI_ge (by omega) (by omega))) (fun _ => ?_)
      refine lv_iconst (v := 0) hx hb dX2_cyclicXorKey_15 (by decide) ?_
      refine lv_istore (lv' := [(5, .int 0), (0, .ref h0), (1, .ref aK), (2, .int (nI n)), (3, .int (nI ((4 * i) % n))), (4, .int (nI i))]) hx hb dX2_cyclicXorKey_16 hl (by decide) rfl (fun ls hl => ?_)
      refine lv_iconst (v := nI 0) hx hb dX2_cyclicXorKey_18 (by decide) ?_
      refine lv_istore (lv' := [(6, .int (nI 0)), (5, .int 0), (0, .ref h0), (1, .ref aK), (2, .int (nI n)), (3, .int (nI ((4 * i) % n))), (4, .int (nI i))]) hx hb dX2_cyclicXorKey_19 hl (by decide) rfl (fun ls hl => ?_)
      have inner : ∀ (k j : Nat), j + k = 4 → ∀ (ls : Array Slot), (∀ (ls : Array Slot), lv_has ls 7 [(0, .ref h0), (1, .ref aK), (2, .int (nI n)), (3, .int (nI ((4 * i + 4) % n))), (4, .int (nI i)), (5, .int (bf_4 (fun j => g j &&& 255) n (4 * i) 4))] → W p l e (headSpec (ws_ yX2_cyclicXorKey cX2_cyclicXorKey 7 none) ({ frames := 0, cells := 0, slots := 0, locals := 0 } : Room)).room s m ([.ref h0, .ref aK] : List Value).toArray below meth c H locs 0 0 Q (F0 m 58 ls [])) → lv_has ls 7 [(0, .ref h0), (1, .ref aK), (2, .int (nI n)), (3, .int (nI ((4 * i + j) % n))), (4, .int (nI i)), (5, .int (bf_4 (fun j => g j &&& 255) n (4 * i) j)), (6, .int (nI j))] → W p l e (headSpec (ws_ yX2_cyclicXorKey cX2_cyclicXorKey 7 none) ({ frames := 0, cells := 0, slots := 0, locals := 0 } : Room)).room s m ([.ref h0, .ref aK] : List Value).toArray below meth c H locs 0 0 Q (F0 m 21 ls []) := by
        intro k
        induction k with
        | zero =>
          intro j hj ls kx hl
          refine lv_iload hx hb dX2_cyclicXorKey_21 (lv_at hl 6 rfl) ?_
          refine lv_iconst (v := nI 4) hx hb dX2_cyclicXorKey_23 (by decide) ?_
          refine lv_icmp_ge (tgt := 58) hx hb dX2_cyclicXorKey_24 (by decide) (fun _ => ?_) (fun c9 => absurd (nI_le (by omega) (by omega)) c9)
          have hj4 : j = 4 := by omega
          subst hj4
          exact kx ls (lv_sub hl [0, 1, 2, 3, 4, 5] rfl)
        | succ k ih2 =>
          intro j hj ls kx hl
          have hm := Nat.mod_lt (4 * i + j) hn
          refine lv_iload hx hb dX2_cyclicXorKey_21 (lv_at hl 6 rfl) ?_
          refine lv_iconst (v := nI 4) hx hb dX2_cyclicXorKey_23 (by decide) ?_
          refine lv_icmp_ge (tgt := 58) hx hb dX2_cyclicXorKey_24 (by decide) (fun c9 => absurd c9 (nI_ge (by omega) (by omega))) (fun _ => ?_)
          refine lv_iload hx hb dX2_cyclicXorKey_27 (lv_at hl 5 rfl) ?_
          refine lv_bipush (v := 8) hx hb dX2_cyclicXorKey_29 (by decide) ?_
          refine lv_ishl hx hb dX2_cyclicXorKey_31 ?_
          refine lv_aload_n hx hb dX2_cyclicXorKey_32 rfl (lv_at hl 1 rfl) ?_
          refine lv_iload_n hx hb dX2_cyclicXorKey_33 rfl (lv_at hl 3 rfl) ?_
          refine lv_iinc (v := nI ((4 * i + j) % n + 1)) (lv' := [(3, .int (nI ((4 * i + j) % n + 1))), (0, .ref h0), (1, .ref aK), (2, .int (nI n)), (4, .int (nI i)), (5, .int (bf_4 (fun j => g j &&& 255) n (4 * i) j)), (6, .int (nI j))]) hx hb dX2_cyclicXorKey_34 hl (k := 3) rfl (nI_1 _) (by decide) rfl (fun ls hl => ?_)
          refine cx_bald hx hb hK hP 2 1 rfl rfl ((4 * i + j) % n) (rfl) hm (by omega) dX2_cyclicXorKey_37 ?_
          refine lv_sipush (v := 255) hx hb dX2_cyclicXorKey_38 (by decide) ?_
          refine lv_iand hx hb dX2_cyclicXorKey_41 ?_
          refine lv_ior hx hb dX2_cyclicXorKey_42 ?_
          refine cx_top (bf_4 (fun j => g j &&& 255) n (4 * i) (j + 1)) (rfl) ?_
          refine lv_istore (lv' := [(5, .int (bf_4 (fun j => g j &&& 255) n (4 * i) (j + 1))), (3, .int (nI ((4 * i + j) % n + 1))), (0, .ref h0), (1, .ref aK), (2, .int (nI n)), (4, .int (nI i)), (6, .int (nI j))]) hx hb dX2_cyclicXorKey_43 hl (by decide) rfl (fun ls hl => ?_)
          refine lv_iload_n hx hb dX2_cyclicXorKey_45 rfl (lv_at hl 1 rfl) ?_
          refine lv_iload_n hx hb dX2_cyclicXorKey_46 rfl (lv_at hl 4 rfl) ?_
          rcases Nat.lt_or_ge ((4 * i + j) % n + 1) n with hc | hc
          · have hc2 : (4 * i + (j + 1)) % n = (4 * i + j) % n + 1 := bf_md1 hc
            refine lv_icmp_lt (tgt := 52) hx hb dX2_cyclicXorKey_47 (by decide) (fun _ => ?_) (fun c9 => absurd (nI_lt (by omega) (by omega)) c9)
            refine lv_iinc (v := nI (j + 1)) (lv' := [(6, .int (nI (j + 1))), (5, .int (bf_4 (fun j => g j &&& 255) n (4 * i) (j + 1))), (3, .int (nI ((4 * i + j) % n + 1))), (0, .ref h0), (1, .ref aK), (2, .int (nI n)), (4, .int (nI i))]) hx hb dX2_cyclicXorKey_52 hl (k := 6) rfl (nI_1 j) (by decide) rfl (fun ls hl => ?_)
            refine lv_goto (tgt := 21) hx hb dX2_cyclicXorKey_55 (by decide) ?_
            exact ih2 (j + 1) (by omega) ls kx (by rw [hc2]; exact lv_sub hl [3, 4, 5, 2, 6, 1, 0] rfl)
          · have hc2 : (4 * i + (j + 1)) % n = 0 := bf_md0 hn hc
            refine lv_icmp_lt (tgt := 52) hx hb dX2_cyclicXorKey_47 (by decide) (fun c9 => absurd c9 (nI_nlt (by omega) (by omega))) (fun _ => ?_)
            refine lv_iconst (v := nI 0) hx hb dX2_cyclicXorKey_50 (by decide) ?_
            refine lv_istore_n (lv' := [(3, .int (nI 0)), (5, .int (bf_4 (fun j => g j &&& 255) n (4 * i) (j + 1))), (0, .ref h0), (1, .ref aK), (2, .int (nI n)), (4, .int (nI i)), (6, .int (nI j))]) hx hb dX2_cyclicXorKey_51 rfl hl (by decide) rfl (fun ls hl => ?_)
            refine lv_iinc (v := nI (j + 1)) (lv' := [(6, .int (nI (j + 1))), (3, .int (nI 0)), (5, .int (bf_4 (fun j => g j &&& 255) n (4 * i) (j + 1))), (0, .ref h0), (1, .ref aK), (2, .int (nI n)), (4, .int (nI i))]) hx hb dX2_cyclicXorKey_52 hl (k := 6) rfl (nI_1 j) (by decide) rfl (fun ls hl => ?_)
            refine lv_goto (tgt := 21) hx hb dX2_cyclicXorKey_55 (by decide) ?_
            exact ih2 (j + 1) (by omega) ls kx (by rw [hc2]; exact lv_sub hl [3, 4, 5, 1, 6, 2, 0] rfl)
      refine inner 4 0 rfl ls (fun ls hl => ?_) (lv_sub hl [2, 3, 4, 5, 6, 1, 0] rfl)
      refine lv_aload_n hx hb dX2_cyclicXorKey_58 rfl (lv_at hl 0 rfl) ?_
      refine va_get (D := (dC, dI)) (ci := 2) (v := .ref aP) (C := RX2) (T := TX2) (N := 2) hx hb hts in_X2 hown hK hP 0 rfl rfl 1 (by decide) (hts _ q151) (fun _ h9 => h9) rfl dX2_cyclicXorKey_59 ?_
      refine lv_iload hx hb dX2_cyclicXorKey_62 (lv_at hl 4 rfl) ?_
      refine lv_dup2_11 hx hb dX2_cyclicXorKey_64 rfl rfl ?_
      refine cx_iald hx hb hK hP 1 0 rfl rfl (i) (rfl) (by omega) (by decide) dX2_cyclicXorKey_65 ?_
      refine lv_iload hx hb dX2_cyclicXorKey_66 (lv_at hl 5 rfl) ?_
      refine lv_ixor hx hb dX2_cyclicXorKey_68 ?_
      refine cx_iast hx hb hK hP hD hS 1 0 rfl rfl (i) (rfl) (by omega) (by decide) dX2_cyclicXorKey_69 (fun H locs hP hD hS => ?_)
      have hP : va_P (dC, dI) vwCl [(h0, .inr (2, [.ref aS, .ref aP])), aI cI aP 18 (upd f i ((f i) ^^^ (bf_4 (fun j => g j &&& 255) n (4 * i) 4))), aI cB aK n g] H := hP
      have hD : va_D A [(h0, .inr (2, [.ref aS, .ref aP])), aI cI aP 18 (upd f i ((f i) ^^^ (bf_4 (fun j => g j &&& 255) n (4 * i) 4))), aI cB aK n g] := hD
      refine lv_iinc (v := nI (i + 1)) (lv' := [(4, .int (nI (i + 1))), (0, .ref h0), (1, .ref aK), (2, .int (nI n)), (3, .int (nI ((4 * i + 4) % n))), (5, .int (bf_4 (fun j => g j &&& 255) n (4 * i) 4))]) hx hb dX2_cyclicXorKey_70 hl (k := 4) rfl (nI_1 i) (by decide) rfl (fun ls hl => ?_)
      refine lv_goto (tgt := 8) hx hb dX2_cyclicXorKey_73 (by decide) ?_
      exact ih (i + 1) (by omega) _ H locs ls (bf_cxn hf rfl) hP hD hS (lv_sub hl [1, 2, 3, 4, 0] rfl)
  exact loop 18 0 (by omega) fP _ _ ls (fun j => by rw [if_neg (by omega)]) hP hD hS (by rw [show (4 * 0) % n = 0 from Nat.zero_mod n]; exact lv_sub hl [3, 4, 2, 1, 0] rfl)
end
section
/-! BCrypt: processTableWithSalt -/
set_option maxHeartbeats 4000000 in
set_option maxRecDepth 100000 in
/-- BCrypt.processTableWithSalt(P, salt32, iv1, iv2) -/
theorem met_psP (l : Launch) (dC : Nat → ClassId) (dI : Nat → Nat → Nat) (cI cB : ClassId) (h0 aS aP aK nK : Nat) (T fP fS a : Nat → Int32) (w : Nat → Int32 × Int32) (i1 i2 : Int32) (hT : bf_Ag fP fS T) (hnK : 4 ≤ nK) (hnK2 : nK < 2 ^ 30) (hw : ∀ k, w (2 * k) = (a 0, a 1) ∧ w (2 * k + 1) = (a 2, a 3)) (sz : Nat) : Met l yX2_processTableWithSalt (ws_ yX2_processTableWithSalt cX2_processTableWithSalt 12 none) ({ frames := 1, cells := 0, slots := 0, locals := 21 } : Room) (cx_Pre (dC, dI) (tyL cI cB) [.ref h0, .ref aP, .ref aK, .int i1, .int i2] [(h0, .inr (2, [.ref aS, .ref aP])), aI cI aS 1024 fS, aI cI aP 18 fP, aI cI aK nK a] sz cx_No) (cx_Qv (S := Nat → Int32) (dC, dI) [(h0, .inr (2, [.ref aS, .ref aP])), aI cI aS 1024 fS, aI cI aP 18 fP, aI cI aK nK a] sz (fun u => bf_Ag u fS (bf_run w 0 9 (T, i1, i2)).1) (fun u => [oBC h0 aS aP, aI cI aS 1024 fS, aI cI aP 18 u, aI cI aK nK a])) 0 0 (va_A [(h0, .inr (2, [.ref aS, .ref aP])), aI cI aS 1024 fS, aI cI aP 18 fP, aI cI aK nK a] sz) := by
  refine Met.ofW (cc := cX2_processTableWithSalt) (maxL := 12) (ret := none) (by decide) rfl ?_
  intro p e s m args below meth c s₁ B hml hv
  obtain ⟨rfl, hsz, hP, hK, hD0, hE⟩ := hv
  have hx := B.exec
  have hb := B.bytes
  have hr := B.returns
  have hts := atoms_spec (ws := (ws_ yX2_processTableWithSalt cX2_processTableWithSalt 12 none)) B.pre
  have hts : ∀ w ∈ lw_all, w.before _ s = true := fun w h => hts w (List.mem_cons_of_mem _ h)
  have hown : s.vm.findClass RX2 = some m.cls := findClass_of_methodNamed B.named
  have hlocks := B.notSynchronized
  subst hsz
  obtain ⟨A, hAe⟩ : ∃ A : Nat → Prop, A = va_A [(h0, .inr (2, [.ref aS, .ref aP])), aI cI aS 1024 fS, aI cI aP 18 fP, aI cI aK nK a] s.heap.size := ⟨_, rfl⟩
  have hD : va_D A [(h0, .inr (2, [.ref aS, .ref aP])), aI cI aS 1024 fS, aI cI aP 18 fP, aI cI aK nK a] := by rw [hAe]; exact hD0.self
  have hA : ∀ q : Nat, s.heap.size ≤ q → A q := fun q h => by rw [hAe]; exact Or.inr h
  have hS : va_S A s.heap s.heap [] := va_S.rf
  refine cx_Q (fun Q hQe => ?_)
  have hP : va_P (dC, dI) vwCl [(h0, .inr (2, [.ref aS, .ref aP])), aI cI aS 1024 fS, aI cI aP 18 fP, aI cI aK nK a] s.heap := hP
  have hl := lv_entry ([.ref h0, .ref aP, .ref aK, .int i1, .int i2]) (n := 12) (Nat.le_of_ble_eq_true rfl)
  rw [lg_entry_eq]
  generalize (lg_sl ([.ref h0, .ref aP, .ref aK, .int i1, .int i2]) ++ List.replicate (12 - (lg_sl ([.ref h0, .ref aP, .ref aK, .int i1, .int i2])).length) Slot.unset).toArray = ls at hl ⊢
  have hl : lv_has ls 12 [(0, .ref h0), (1, .ref aP), (2, .ref aK), (3, .int i1), (4, .int i2)] := hl
  refine lv_iload_n hx hb dX2_processTableWithSalt_0 rfl (lv_at hl 3 rfl) ?_
  refine lv_aload_n hx hb dX2_processTableWithSalt_1 rfl (lv_at hl 2 rfl) ?_
  refine lv_iconst (v := 0) hx hb dX2_processTableWithSalt_2 (by decide) ?_
  refine cx_iald hx hb hK hP 3 0 rfl rfl (0) (rfl) (by omega) (by omega) dX2_processTableWithSalt_3 ?_
  refine lv_ixor hx hb dX2_processTableWithSalt_4 ?_
  refine lv_topi (fun v5 ev5 => ?_)
  refine lv_istore (lv' := [(5, .int v5), (0, .ref h0), (1, .ref aP), (2, .ref aK), (3, .int i1), (4, .int i2)]) hx hb dX2_processTableWithSalt_5 hl (by decide) rfl (fun ls hl => ?_)
  refine lv_iload hx hb dX2_processTableWithSalt_7 (lv_at hl 5 rfl) ?_
  refine lv_aload_n hx hb dX2_processTableWithSalt_9 rfl (lv_at hl 3 rfl) ?_
  refine lv_iconst (v := 1) hx hb dX2_processTableWithSalt_10 (by decide) ?_
  refine cx_iald hx hb hK hP 3 0 rfl rfl (1) (rfl) (by omega) (by omega) dX2_processTableWithSalt_11 ?_
  refine lv_ixor hx hb dX2_processTableWithSalt_12 ?_
  refine lv_topi (fun v6 ev6 => ?_)
  refine lv_istore (lv' := [(6, .int v6), (5, .int v5), (0, .ref h0), (1, .ref aP), (2, .ref aK), (3, .int i1), (4, .int i2)]) hx hb dX2_processTableWithSalt_13 hl (by decide) rfl (fun ls hl => ?_)
  refine lv_aload_n hx hb dX2_processTableWithSalt_15 rfl (lv_at hl 3 rfl) ?_
  refine va_alen (v := nI 18) hx hb hK hP 2 0 rfl rfl rfl dX2_processTableWithSalt_16 ?_
  refine lv_istore (lv' := [(9, .int (nI 18)), (6, .int v6), (5, .int v5), (0, .ref h0), (1, .ref aP), (2, .ref aK), (3, .int i1), (4, .int i2)]) hx hb dX2_processTableWithSalt_17 hl (by decide) rfl (fun ls hl => ?_)
  refine lv_iconst (v := nI 0) hx hb dX2_processTableWithSalt_19 (by decide) ?_
  refine lv_istore (lv' := [(10, .int (nI 0)), (9, .int (nI 18)), (6, .int v6), (5, .int v5), (0, .ref h0), (1, .ref aP), (2, .ref aK), (3, .int i1), (4, .int i2)]) hx hb dX2_processTableWithSalt_20 hl (by decide) rfl (fun ls hl => ?_)
  have loop : ∀ (k q : Nat), q + k = 4 → ∀ (g : Nat → Int32) (vl vr : Int32) (H : Heap) (locs : List Loc) (ls : Array Slot), bf_Ag g fS (bf_run w 0 (2 * q) (T, i1, i2)).1 → vl = (bf_run w 0 (2 * q) (T, i1, i2)).2.1 ^^^ (w (2 * q)).1 → vr = (bf_run w 0 (2 * q) (T, i1, i2)).2.2 ^^^ (w (2 * q)).2 → va_P (dC, dI) vwCl [(h0, .inr (2, [.ref aS, .ref aP])), aI cI aS 1024 fS, aI cI aP 18 g, aI cI aK nK a] H → va_D A [(h0, .inr (2, [.ref aS, .ref aP])), aI cI aS 1024 fS, aI cI aP 18 g, aI cI aK nK a] → va_S A s.heap H locs → lv_has ls 12 [(0, .ref h0), (1, .ref aP), (2, .ref aK), (5, .int vl), (6, .int vr), (9, .int (nI 18)), (10, .int (nI (4 * q)))] → W p l e (headSpec (ws_ yX2_processTableWithSalt cX2_processTableWithSalt 12 none) ({ frames := 1, cells := 0, slots := 0, locals := 21 } : Room)).room s m ([.ref h0, .ref aP, .ref aK, .int i1, .int i2] : List Value).toArray below meth c H locs 0 0 Q (F0 m 22 ls []) := by
    intro k
    induction k with
    | zero =>
      intro q hq g vl vr H locs ls hg hvl hvr hP hD hS hl
      refine lv_iload hx hb dX2_processTableWithSalt_22 (lv_at hl 6 rfl) ?_
      refine lv_iload hx hb dX2_processTableWithSalt_24 (lv_at hl 5 rfl) ?_
      refine lv_icmp_ge (tgt := 267) hx hb dX2_processTableWithSalt_26 (by decide) (fun c9 => absurd c9 (nI_ge (by omega) (by omega))) (fun _ => ?_)
      refine lv_iload hx hb dX2_processTableWithSalt_29 (lv_at hl 3 rfl) ?_
      refine lv_aload_n hx hb dX2_processTableWithSalt_31 rfl (lv_at hl 0 rfl) ?_
      refine va_get (D := (dC, dI)) (ci := 2) (v := .ref aP) (C := RX2) (T := TX2) (N := 2) hx hb hts in_X2 hown hK hP 0 rfl rfl 1 (by decide) (hts _ q151) (fun _ h9 => h9) rfl dX2_processTableWithSalt_32 ?_
      refine lv_iconst (v := 0) hx hb dX2_processTableWithSalt_35 (by decide) ?_
      refine cx_iald hx hb hK hP 2 0 rfl rfl (0) (rfl) (by decide) (by decide) dX2_processTableWithSalt_36 ?_
      refine lv_ixor hx hb dX2_processTableWithSalt_37 ?_
      refine lv_topi (fun v0 ev0 => ?_)
      refine lv_istore (lv' := [(5, .int v0), (0, .ref h0), (1, .ref aP), (2, .ref aK), (6, .int vr), (9, .int (nI 18)), (10, .int (nI (4 * q)))]) hx hb dX2_processTableWithSalt_38 hl (by decide) rfl (fun ls hl => ?_)
      refine lv_iconst (v := nI (2 * 0 + 1)) hx hb dX2_processTableWithSalt_40 (by decide) ?_
      refine lv_istore (lv' := [(11, .int (nI (2 * 0 + 1))), (5, .int v0), (0, .ref h0), (1, .ref aP), (2, .ref aK), (6, .int vr), (9, .int (nI 18)), (10, .int (nI (4 * q)))]) hx hb dX2_processTableWithSalt_41 hl (by decide) rfl (fun ls hl => ?_)
      have inner : ∀ (k j : Nat), j + k = 8 → ∀ (yl yr : Int32) (ls : Array Slot), yl = (bf_rds g fS (2 * j) (vl, vr)).1 ^^^ g (2 * j) → yr = (bf_rds g fS (2 * j) (vl, vr)).2 → (∀ (yl yr : Int32) (ls : Array Slot), yl = (bf_rds g fS 16 (vl, vr)).1 ^^^ g 16 → yr = (bf_rds g fS 16 (vl, vr)).2 → lv_has ls 12 [(0, .ref h0), (1, .ref aP), (2, .ref aK), (5, .int yl), (6, .int yr), (9, .int (nI 18)), (10, .int (nI (4 * q)))] → W p l e (headSpec (ws_ yX2_processTableWithSalt cX2_processTableWithSalt 12 none) ({ frames := 1, cells := 0, slots := 0, locals := 21 } : Room)).room s m ([.ref h0, .ref aP, .ref aK, .int i1, .int i2] : List Value).toArray below meth c H locs 0 0 Q (F0 m 96 ls [])) → lv_has ls 12 [(0, .ref h0), (1, .ref aP), (2, .ref aK), (5, .int yl), (6, .int yr), (9, .int (nI 18)), (10, .int (nI (4 * q))), (11, .int (nI (2 * j + 1)))] → W p l e (headSpec (ws_ yX2_processTableWithSalt cX2_processTableWithSalt 12 none) ({ frames := 1, cells := 0, slots := 0, locals := 21 } : Room)).room s m ([.ref h0, .ref aP, .ref aK, .int i1, .int i2] : List Value).toArray below meth c H locs 0 0 Q (F0 m 43 ls []) := by
        intro k
        induction k with
        | zero =>
          intro j hj yl yr ls hyl hyr kx hl
          refine lv_iload hx hb dX2_processTableWithSalt_43 (lv_at hl 7 rfl) ?_
          refine lv_bipush (v := nI 16) hx hb dX2_processTableWithSalt_45 (by decide) ?_
          refine lv_icmp_ge (tgt := 96) hx hb dX2_processTableWithSalt_47 (by decide) (fun _ => ?_) (fun c9 => absurd (nI_le (by omega) (by omega)) c9)
          have hj8 : j = 8 := by omega
          subst hj8
          exact kx yl yr ls hyl hyr (lv_sub hl [0, 1, 2, 3, 4, 5, 6] rfl)
        | succ k ih =>
          intro j hj yl yr ls hyl hyr kx hl
          refine lv_iload hx hb dX2_processTableWithSalt_43 (lv_at hl 7 rfl) ?_
          refine lv_bipush (v := nI 16) hx hb dX2_processTableWithSalt_45 (by decide) ?_
          refine lv_icmp_ge (tgt := 96) hx hb dX2_processTableWithSalt_47 (by decide) (fun c9 => absurd c9 (nI_ge (by omega) (by omega))) (fun _ => ?_)
          refine lv_iload hx hb dX2_processTableWithSalt_50 (lv_at hl 4 rfl) ?_
          refine lv_aload_n hx hb dX2_processTableWithSalt_52 rfl (lv_at hl 0 rfl) ?_
          refine lv_iload hx hb dX2_processTableWithSalt_53 (lv_at hl 3 rfl) ?_
          refine vp_callSi (va_runV (As := [.int yl]) (rest := [.int yr]) ⟨hx, hb, hml, hown, hts⟩ (met_F l dC dI cI cB h0 aS aP fS yl) (cwV 1 hts (lw_V q212 q214 qs5 q13 q215) rfl rfl rfl (by decide +kernel) ⟨Nat.le_of_ble_eq_true rfl, Nat.le_of_ble_eq_true rfl⟩) (cx_ppV (ci := 2) (q0 := 0) rfl rfl hP hK [0, 1] rfl) rfl rfl hl.1 rfl (lv_room (Nat.le_of_ble_eq_true rfl)) dX2_processTableWithSalt_55 ⟨Nat.le_of_ble_eq_true rfl, Nat.le_of_ble_eq_true rfl⟩).run (fun r_1 hr_1 => ?_)
          obtain rfl : r_1 = bf_F fS yl := hr_1
          refine lv_aload_n hx hb dX2_processTableWithSalt_58 rfl (lv_at hl 0 rfl) ?_
          refine va_get (D := (dC, dI)) (ci := 2) (v := .ref aP) (C := RX2) (T := TX2) (N := 2) hx hb hts in_X2 hown hK hP 0 rfl rfl 1 (by decide) (hts _ q151) (fun _ h9 => h9) rfl dX2_processTableWithSalt_59 ?_
          refine lv_iload hx hb dX2_processTableWithSalt_62 (lv_at hl 7 rfl) ?_
          refine cx_iald hx hb hK hP 2 0 rfl rfl ((2 * j + 1)) (rfl) (by omega) (by decide) dX2_processTableWithSalt_64 ?_
          refine lv_ixor hx hb dX2_processTableWithSalt_65 ?_
          refine lv_ixor hx hb dX2_processTableWithSalt_66 ?_
          refine lv_topi (fun zr ezr => ?_)
          refine lv_istore (lv' := [(6, .int zr), (0, .ref h0), (1, .ref aP), (2, .ref aK), (5, .int yl), (9, .int (nI 18)), (10, .int (nI (4 * q))), (11, .int (nI (2 * j + 1)))]) hx hb dX2_processTableWithSalt_67 hl (by decide) rfl (fun ls hl => ?_)
          refine lv_iload hx hb dX2_processTableWithSalt_69 (lv_at hl 4 rfl) ?_
          refine lv_aload_n hx hb dX2_processTableWithSalt_71 rfl (lv_at hl 1 rfl) ?_
          refine lv_iload hx hb dX2_processTableWithSalt_72 (lv_at hl 0 rfl) ?_
          refine vp_callSi (va_runV (As := [.int zr]) (rest := [.int yl]) ⟨hx, hb, hml, hown, hts⟩ (met_F l dC dI cI cB h0 aS aP fS zr) (cwV 1 hts (lw_V q212 q214 qs5 q13 q215) rfl rfl rfl (by decide +kernel) ⟨Nat.le_of_ble_eq_true rfl, Nat.le_of_ble_eq_true rfl⟩) (cx_ppV (ci := 2) (q0 := 0) rfl rfl hP hK [0, 1] rfl) rfl rfl hl.1 rfl (lv_room (Nat.le_of_ble_eq_true rfl)) dX2_processTableWithSalt_74 ⟨Nat.le_of_ble_eq_true rfl, Nat.le_of_ble_eq_true rfl⟩).run (fun r_2 hr_2 => ?_)
          obtain rfl : r_2 = bf_F fS zr := hr_2
          refine lv_aload_n hx hb dX2_processTableWithSalt_77 rfl (lv_at hl 1 rfl) ?_
          refine va_get (D := (dC, dI)) (ci := 2) (v := .ref aP) (C := RX2) (T := TX2) (N := 2) hx hb hts in_X2 hown hK hP 0 rfl rfl 1 (by decide) (hts _ q151) (fun _ h9 => h9) rfl dX2_processTableWithSalt_78 ?_
          refine lv_iload hx hb dX2_processTableWithSalt_81 (lv_at hl 7 rfl) ?_
          refine lv_iconst (v := 1) hx hb dX2_processTableWithSalt_83 (by decide) ?_
          refine lv_iadd hx hb dX2_processTableWithSalt_84 ?_
          refine cx_top (nI (2 * j + 1 + 1)) (nI_1 (2 * j + 1)) ?_
          refine cx_iald hx hb hK hP 2 0 rfl rfl ((2 * j + 1 + 1)) (rfl) (by omega) (by decide) dX2_processTableWithSalt_85 ?_
          refine lv_ixor hx hb dX2_processTableWithSalt_86 ?_
          refine lv_ixor hx hb dX2_processTableWithSalt_87 ?_
          refine lv_topi (fun zl ezl => ?_)
          refine lv_istore (lv' := [(5, .int zl), (6, .int zr), (0, .ref h0), (1, .ref aP), (2, .ref aK), (9, .int (nI 18)), (10, .int (nI (4 * q))), (11, .int (nI (2 * j + 1)))]) hx hb dX2_processTableWithSalt_88 hl (by decide) rfl (fun ls hl => ?_)
          refine lv_iinc (v := nI (2 * (j + 1) + 1)) (lv' := [(11, .int (nI (2 * (j + 1) + 1))), (5, .int zl), (6, .int zr), (0, .ref h0), (1, .ref aP), (2, .ref aK), (9, .int (nI 18)), (10, .int (nI (4 * q)))]) hx hb dX2_processTableWithSalt_90 hl (k := 7) rfl (by rw [show 2 * (j + 1) + 1 = 2 * j + 1 + 2 by omega]; exact nI_add (2 * j + 1) 2) (by decide) rfl (fun ls hl => ?_)
          refine lv_goto (tgt := 43) hx hb dX2_processTableWithSalt_93 (by decide) ?_
          obtain ⟨g1, g2⟩ := bf_two hyl hyr ezr ezl
          exact ih (j + 1) (by omega) zl zr ls g1 g2 kx (lv_sub hl [3, 4, 5, 1, 2, 6, 7, 0] rfl)
      refine inner 8 0 rfl _ _ ls (ev0) (rfl) (fun zl zr ls hzl hzr hl => ?_) (lv_sub hl [2, 3, 4, 1, 5, 6, 7, 0] rfl)
      refine lv_iload hx hb dX2_processTableWithSalt_96 (lv_at hl 4 rfl) ?_
      refine lv_aload_n hx hb dX2_processTableWithSalt_98 rfl (lv_at hl 0 rfl) ?_
      refine va_get (D := (dC, dI)) (ci := 2) (v := .ref aP) (C := RX2) (T := TX2) (N := 2) hx hb hts in_X2 hown hK hP 0 rfl rfl 1 (by decide) (hts _ q151) (fun _ h9 => h9) rfl dX2_processTableWithSalt_99 ?_
      refine lv_bipush (v := 17) hx hb dX2_processTableWithSalt_102 (by decide) ?_
      refine cx_iald hx hb hK hP 2 0 rfl rfl (17) (rfl) (by decide) (by decide) dX2_processTableWithSalt_104 ?_
      refine lv_ixor hx hb dX2_processTableWithSalt_105 ?_
      refine lv_topi (fun z3 ez3 => ?_)
      refine lv_istore (lv' := [(6, .int z3), (0, .ref h0), (1, .ref aP), (2, .ref aK), (5, .int zl), (9, .int (nI 18)), (10, .int (nI (4 * q)))]) hx hb dX2_processTableWithSalt_106 hl (by decide) rfl (fun ls hl => ?_)
      refine lv_aload_n hx hb dX2_processTableWithSalt_108 rfl (lv_at hl 2 rfl) ?_
      refine lv_iload hx hb dX2_processTableWithSalt_109 (lv_at hl 6 rfl) ?_
      refine lv_iload hx hb dX2_processTableWithSalt_111 (lv_at hl 0 rfl) ?_
      refine cx_iast hx hb hK hP hD hS 2 0 rfl rfl (2 * (2 * q)) (congrArg nI (by omega)) (by omega) (by decide) dX2_processTableWithSalt_113 (fun H locs hP hD hS => ?_)
      have hP : va_P (dC, dI) vwCl [(h0, .inr (2, [.ref aS, .ref aP])), aI cI aS 1024 fS, aI cI aP 18 (upd g (2 * (2 * q)) z3), aI cI aK nK a] H := hP
      have hD : va_D A [(h0, .inr (2, [.ref aS, .ref aP])), aI cI aS 1024 fS, aI cI aP 18 (upd g (2 * (2 * q)) z3), aI cI aK nK a] := hD
      refine lv_aload_n hx hb dX2_processTableWithSalt_114 rfl (lv_at hl 2 rfl) ?_
      refine lv_iload hx hb dX2_processTableWithSalt_115 (lv_at hl 6 rfl) ?_
      refine lv_iconst (v := 1) hx hb dX2_processTableWithSalt_117 (by decide) ?_
      refine lv_iadd hx hb dX2_processTableWithSalt_118 ?_
      refine cx_top (nI (2 * (2 * q) + 1)) ((nI_1 (4 * q)).trans (congrArg nI (by omega))) ?_
      refine lv_iload hx hb dX2_processTableWithSalt_119 (lv_at hl 4 rfl) ?_
      refine cx_iast hx hb hK hP hD hS 2 0 rfl rfl ((2 * (2 * q) + 1)) (rfl) (by omega) (by decide) dX2_processTableWithSalt_121 (fun H locs hP hD hS => ?_)
      have hP : va_P (dC, dI) vwCl [(h0, .inr (2, [.ref aS, .ref aP])), aI cI aS 1024 fS, aI cI aP 18 (upd (upd g (2 * (2 * q)) z3) (2 * (2 * q) + 1) zl), aI cI aK nK a] H := hP
      have hD : va_D A [(h0, .inr (2, [.ref aS, .ref aP])), aI cI aS 1024 fS, aI cI aP 18 (upd (upd g (2 * (2 * q)) z3) (2 * (2 * q) + 1) zl), aI cI aK nK a] := hD
      obtain ⟨b1, b2, b3⟩ := bf_blkP (w := w) (k := 2 * q) (by omega) hg hvl hvr hzl hzr ez3
      generalize hg1 : upd (upd g (2 * (2 * q)) z3) (2 * (2 * q) + 1) zl = g1 at hP hD b1
      refine lv_aload_n hx hb dX2_processTableWithSalt_122 rfl (lv_at hl 3 rfl) ?_
      refine lv_iconst (v := 2) hx hb dX2_processTableWithSalt_123 (by decide) ?_
      refine cx_iald hx hb hK hP 3 0 rfl rfl (2) (rfl) (by omega) (by omega) dX2_processTableWithSalt_124 ?_
      refine lv_iload hx hb dX2_processTableWithSalt_125 (lv_at hl 0 rfl) ?_
      refine lv_ixor hx hb dX2_processTableWithSalt_127 ?_
      refine lv_topi (fun v7 ev7 => ?_)
      refine lv_istore (lv' := [(7, .int v7), (6, .int z3), (0, .ref h0), (1, .ref aP), (2, .ref aK), (5, .int zl), (9, .int (nI 18)), (10, .int (nI (4 * q)))]) hx hb dX2_processTableWithSalt_128 hl (by decide) rfl (fun ls hl => ?_)
      refine lv_aload_n hx hb dX2_processTableWithSalt_130 rfl (lv_at hl 4 rfl) ?_
      refine lv_iconst (v := 3) hx hb dX2_processTableWithSalt_131 (by decide) ?_
      refine cx_iald hx hb hK hP 3 0 rfl rfl (3) (rfl) (by omega) (by omega) dX2_processTableWithSalt_132 ?_
      refine lv_iload hx hb dX2_processTableWithSalt_133 (lv_at hl 5 rfl) ?_
      refine lv_ixor hx hb dX2_processTableWithSalt_135 ?_
      refine lv_topi (fun v8 ev8 => ?_)
      refine lv_istore (lv' := [(8, .int v8), (7, .int v7), (6, .int z3), (0, .ref h0), (1, .ref aP), (2, .ref aK), (5, .int zl), (9, .int (nI 18)), (10, .int (nI (4 * q)))]) hx hb dX2_processTableWithSalt_136 hl (by decide) rfl (fun ls hl => ?_)
      refine lv_iload hx hb dX2_processTableWithSalt_138 (lv_at hl 8 rfl) ?_
      refine lv_iconst (v := 2) hx hb dX2_processTableWithSalt_140 (by decide) ?_
      refine lv_iadd hx hb dX2_processTableWithSalt_141 ?_
      refine cx_top (nI (4 * q + 2)) (nI_add (4 * q) 2) ?_
      refine lv_iload hx hb dX2_processTableWithSalt_142 (lv_at hl 7 rfl) ?_
      refine lv_icmp_lt (tgt := 150) hx hb dX2_processTableWithSalt_144 (by decide) (fun c9 => absurd c9 (nI_nlt (by omega) (by omega))) (fun _ => ?_)
      refine lv_goto (tgt := 267) hx hb dX2_processTableWithSalt_147 (by decide) ?_
      subst hQe
      subst hAe
      exact W.vret hx hb hr (fun t ht hW => ⟨⟨g1, rfl, by have hq4 : q = 4 := (by omega); subst hq4; exact b1, by rw [ht]; exact hP.sub [0, 1, 2, 3] rfl, hD.sub [0, 1, 2, 3] (by decide) rfl⟩, hS.F ht⟩) hS.2.2 dX2_processTableWithSalt_267
    | succ k ih =>
      intro q hq g vl vr H locs ls hg hvl hvr hP hD hS hl
      refine lv_iload hx hb dX2_processTableWithSalt_22 (lv_at hl 6 rfl) ?_
      refine lv_iload hx hb dX2_processTableWithSalt_24 (lv_at hl 5 rfl) ?_
      refine lv_icmp_ge (tgt := 267) hx hb dX2_processTableWithSalt_26 (by decide) (fun c9 => absurd c9 (nI_ge (by omega) (by omega))) (fun _ => ?_)
      refine lv_iload hx hb dX2_processTableWithSalt_29 (lv_at hl 3 rfl) ?_
      refine lv_aload_n hx hb dX2_processTableWithSalt_31 rfl (lv_at hl 0 rfl) ?_
      refine va_get (D := (dC, dI)) (ci := 2) (v := .ref aP) (C := RX2) (T := TX2) (N := 2) hx hb hts in_X2 hown hK hP 0 rfl rfl 1 (by decide) (hts _ q151) (fun _ h9 => h9) rfl dX2_processTableWithSalt_32 ?_
      refine lv_iconst (v := 0) hx hb dX2_processTableWithSalt_35 (by decide) ?_
      refine cx_iald hx hb hK hP 2 0 rfl rfl (0) (rfl) (by decide) (by decide) dX2_processTableWithSalt_36 ?_
      refine lv_ixor hx hb dX2_processTableWithSalt_37 ?_
      refine lv_topi (fun v0 ev0 => ?_)
      refine lv_istore (lv' := [(5, .int v0), (0, .ref h0), (1, .ref aP), (2, .ref aK), (6, .int vr), (9, .int (nI 18)), (10, .int (nI (4 * q)))]) hx hb dX2_processTableWithSalt_38 hl (by decide) rfl (fun ls hl => ?_)
      refine lv_iconst (v := nI (2 * 0 + 1)) hx hb dX2_processTableWithSalt_40 (by decide) ?_
      refine lv_istore (lv' := [(11, .int (nI (2 * 0 + 1))), (5, .int v0), (0, .ref h0), (1, .ref aP), (2, .ref aK), (6, .int vr), (9, .int (nI 18)), (10, .int (nI (4 * q)))]) hx hb dX2_processTableWithSalt_41 hl (by decide) rfl (fun ls hl => ?_)
      have inner : ∀ (k j : Nat), j + k = 8 → ∀ (yl yr : Int32) (ls : Array Slot), yl = (bf_rds g fS (2 * j) (vl, vr)).1 ^^^ g (2 * j) → yr = (bf_rds g fS (2 * j) (vl, vr)).2 → (∀ (yl yr : Int32) (ls : Array Slot), yl = (bf_rds g fS 16 (vl, vr)).1 ^^^ g 16 → yr = (bf_rds g fS 16 (vl, vr)).2 → lv_has ls 12 [(0, .ref h0), (1, .ref aP), (2, .ref aK), (5, .int yl), (6, .int yr), (9, .int (nI 18)), (10, .int (nI (4 * q)))] → W p l e (headSpec (ws_ yX2_processTableWithSalt cX2_processTableWithSalt 12 none) ({ frames := 1, cells := 0, slots := 0, locals := 21 } : Room)).room s m ([.ref h0, .ref aP, .ref aK, .int i1, .int i2] : List Value).toArray below meth c H locs 0 0 Q (F0 m 96 ls [])) → lv_has ls 12 [(0, .ref h0), (1, .ref aP), (2, .ref aK), (5, .int yl), (6, .int yr), (9, .int (nI 18)), (10, .int (nI (4 * q))), (11, .int (nI (2 * j + 1)))] → W p l e (headSpec (ws_ yX2_processTableWithSalt cX2_processTableWithSalt 12 none) ({ frames := 1, cells := 0, slots := 0, locals := 21 } : Room)).room s m ([.ref h0, .ref aP, .ref aK, .int i1, .int i2] : List Value).toArray below meth c H locs 0 0 Q (F0 m 43 ls []) := by
        intro k
        induction k with
        | zero =>
          intro j hj yl yr ls hyl hyr kx hl
          refine lv_iload hx hb dX2_processTableWithSalt_43 (lv_at hl 7 rfl) ?_
          refine lv_bipush (v := nI 16) hx hb dX2_processTableWithSalt_45 (by decide) ?_
          refine lv_icmp_ge (tgt := 96) hx hb dX2_processTableWithSalt_47 (by decide) (fun _ => ?_) (fun c9 => absurd (nI_le (by omega) (by omega)) c9)
          have hj8 : j = 8 := by omega
          subst hj8
          exact kx yl yr ls hyl hyr (lv_sub hl [0, 1, 2, 3, 4, 5, 6] rfl)
        | succ k ih =>
          intro j hj yl yr ls hyl hyr kx hl
          refine lv_iload hx hb dX2_processTableWithSalt_43 (lv_at hl 7 rfl) ?_
          refine lv_bipush (v := nI 16) hx hb dX2_processTableWithSalt_45 (by decide) ?_
          refine lv_icmp_ge (tgt := 96) hx hb dX2_processTableWithSalt_47 (by decide) (fun c9 => absurd c9 (nI_ge (by omega) (by omega))) (fun _ => ?_)
          refine lv_iload hx hb dX2_processTableWithSalt_50 (lv_at hl 4 rfl) ?_
          refine lv_aload_n hx hb dX2_processTableWithSalt_52 rfl (lv_at hl 0 rfl) ?_
          refine lv_iload hx hb dX2_processTableWithSalt_53 (lv_at hl 3 rfl) ?_
          refine vp_callSi (va_runV (As := [.int yl]) (rest := [.int yr]) ⟨hx, hb, hml, hown, hts⟩ (met_F l dC dI cI cB h0 aS aP fS yl) (cwV 1 hts (lw_V q212 q214 qs5 q13 q215) rfl rfl rfl (by decide +kernel) ⟨Nat.le_of_ble_eq_true rfl, Nat.le_of_ble_eq_true rfl⟩) (cx_ppV (ci := 2) (q0 := 0) rfl rfl hP hK [0, 1] rfl) rfl rfl hl.1 rfl (lv_room (Nat.le_of_ble_eq_true rfl)) dX2_processTableWithSalt_55 ⟨Nat.le_of_ble_eq_true rfl, Nat.le_of_ble_eq_true rfl⟩).run (fun r_1 hr_1 => ?_)
          obtain rfl : r_1 = bf_F fS yl := hr_1
          refine lv_aload_n hx hb dX2_processTableWithSalt_58 rfl (lv_at hl 0 rfl) ?_
          refine va_get (D := (dC, dI)) (ci := 2) (v := .ref aP) (C := RX2) (T := TX2) (N := 2) hx hb hts in_X2 hown hK hP 0 rfl rfl 1 (by decide) (hts _ q151) (fun _ h9 => h9) rfl dX2_processTableWithSalt_59 ?_
          refine lv_iload hx hb dX2_processTableWithSalt_62 (lv_at hl 7 rfl) ?_
          refine cx_iald hx hb hK hP 2 0 rfl rfl ((2 * j + 1)) (rfl) (by omega) (by decide) dX2_processTableWithSalt_64 ?_
          refine lv_ixor hx hb dX2_processTableWithSalt_65 ?_
          refine lv_ixor hx hb dX2_processTableWithSalt_66 ?_
          refine lv_topi (fun zr ezr => ?_)
          refine lv_istore (lv' := [(6, .int zr), (0, .ref h0), (1, .ref aP), (2, .ref aK), (5, .int yl), (9, .int (nI 18)), (10, .int (nI (4 * q))), (11, .int (nI (2 * j + 1)))]) hx hb dX2_processTableWithSalt_67 hl (by decide) rfl (fun ls hl => ?_)
          refine lv_iload hx hb dX2_processTableWithSalt_69 (lv_at hl 4 rfl) ?_
          refine lv_aload_n hx hb dX2_processTableWithSalt_71 rfl (lv_at hl 1 rfl) ?_
          refine lv_iload hx hb dX2_processTableWithSalt_72 (lv_at hl 0 rfl) ?_
          refine vp_callSi (va_runV (As := [.int zr]) (rest := [.int yl]) ⟨hx, hb, hml, hown, hts⟩ (met_F l dC dI cI cB h0 aS aP fS zr) (cwV 1 hts (lw_V q212 q214 qs5 q13 q215) rfl rfl rfl (by decide +kernel) ⟨Nat.le_of_ble_eq_true rfl, Nat.le_of_ble_eq_true rfl⟩) (cx_ppV (ci := 2) (q0 := 0) rfl rfl hP hK [0, 1] rfl) rfl rfl hl.1 rfl (lv_room (Nat.le_of_ble_eq_true rfl)) dX2_processTableWithSalt_74 ⟨Nat.le_of_ble_eq_true rfl, Nat.le_of_ble_eq_true rfl⟩).run (fun r_2 hr_2 => ?_)
          obtain rfl : r_2 = bf_F fS zr := hr_2
          refine lv_aload_n hx hb dX2_processTableWithSalt_77 rfl (lv_at hl 1 rfl) ?_
          refine va_get (D := (dC, dI)) (ci := 2) (v := .ref aP) (C := RX2) (T := TX2) (N := 2) hx hb hts in_X2 hown hK hP 0 rfl rfl 1 (by decide) (hts _ q151) (fun _ h9 => h9) rfl dX2_processTableWithSalt_78 ?_
          refine lv_iload hx hb dX2_processTableWithSalt_81 (lv_at hl 7 rfl) ?_
          refine lv_iconst (v := 1) hx hb dX2_processTableWithSalt_83 (by decide) ?_
          refine lv_iadd hx hb dX2_processTableWithSalt_84 ?_
          refine cx_top (nI (2 * j + 1 + 1)) (nI_1 (2 * j + 1)) ?_
          refine cx_iald hx hb hK hP 2 0 rfl rfl ((2 * j + 1 + 1)) (rfl) (by omega) (by decide) dX2_processTableWithSalt_85 ?_
          refine lv_ixor hx hb dX2_processTableWithSalt_86 ?_
          refine lv_ixor hx hb dX2_processTableWithSalt_87 ?_
          refine lv_topi (fun zl ezl => ?_)
          refine lv_istore (lv' := [(5, .int zl), (6, .int zr), (0, .ref h0), (1, .ref aP), (2, .ref aK), (9, .int (nI 18)), (10, .int (nI (4 * q))), (11, .int (nI (2 * j + 1)))]) hx hb dX2_processTableWithSalt_88 hl (by decide) rfl (fun ls hl => ?_)
          refine lv_iinc (v := nI (2 * (j + 1) + 1)) (lv' := [(11, .int (nI (2 * (j + 1) + 1))), (5, .int zl), (6, .int zr), (0, .ref h0), (1, .ref aP), (2, .ref aK), (9, .int (nI 18)), (10, .int (nI (4 * q)))]) hx hb dX2_processTableWithSalt_90 hl (k := 7) rfl (by rw [show 2 * (j + 1) + 1 = 2 * j + 1 + 2 by omega]; exact nI_add (2 * j + 1) 2) (by decide) rfl (fun ls hl => ?_)
          refine lv_goto (tgt := 43) hx hb dX2_processTableWithSalt_93 (by decide) ?_
          obtain ⟨g1, g2⟩ := bf_two hyl hyr ezr ezl
          exact ih (j + 1) (by omega) zl zr ls g1 g2 kx (lv_sub hl [3, 4, 5, 1, 2, 6, 7, 0] rfl)
      refine inner 8 0 rfl _ _ ls (ev0) (rfl) (fun zl zr ls hzl hzr hl => ?_) (lv_sub hl [2, 3, 4, 1, 5, 6, 7, 0] rfl)
      refine lv_iload hx hb dX2_processTableWithSalt_96 (lv_at hl 4 rfl) ?_
      refine lv_aload_n hx hb dX2_processTableWithSalt_98 rfl (lv_at hl 0 rfl) ?_
      refine va_get (D := (dC, dI)) (ci := 2) (v := .ref aP) (C := RX2) (T := TX2) (N := 2) hx hb hts in_X2 hown hK hP 0 rfl rfl 1 (by decide) (hts _ q151) (fun _ h9 => h9) rfl dX2_processTableWithSalt_99 ?_
      refine lv_bipush (v := 17) hx hb dX2_processTableWithSalt_102 (by decide) ?_
      refine cx_iald hx hb hK hP 2 0 rfl rfl (17) (rfl) (by decide) (by decide) dX2_processTableWithSalt_104 ?_
      refine lv_ixor hx hb dX2_processTableWithSalt_105 ?_
      refine lv_topi (fun z3 ez3 => ?_)
      refine lv_istore (lv' := [(6, .int z3), (0, .ref h0), (1, .ref aP), (2, .ref aK), (5, .int zl), (9, .int (nI 18)), (10, .int (nI (4 * q)))]) hx hb dX2_processTableWithSalt_106 hl (by decide) rfl (fun ls hl => ?_)
      refine lv_aload_n hx hb dX2_processTableWithSalt_108 rfl (lv_at hl 2 rfl) ?_
      refine lv_iload hx hb dX2_processTableWithSalt_109 (lv_at hl 6 rfl) ?_
      refine lv_iload hx hb dX2_processTableWithSalt_111 (lv_at hl 0 rfl) ?_
      refine cx_iast hx hb hK hP hD hS 2 0 rfl rfl (2 * (2 * q)) (congrArg nI (by omega)) (by omega) (by decide) dX2_processTableWithSalt_113 (fun H locs hP hD hS => ?_)
      have hP : va_P (dC, dI) vwCl [(h0, .inr (2, [.ref aS, .ref aP])), aI cI aS 1024 fS, aI cI aP 18 (upd g (2 * (2 * q)) z3), aI cI aK nK a] H := hP
      have hD : va_D A [(h0, .inr (2, [.ref aS, .ref aP])), aI cI aS 1024 fS, aI cI aP 18 (upd g (2 * (2 * q)) z3), aI cI aK nK a] := hD
      refine lv_aload_n hx hb dX2_processTableWithSalt_114 rfl (lv_at hl 2 rfl) ?_
      refine lv_iload hx hb dX2_processTableWithSalt_115 (lv_at hl 6 rfl) ?_
      refine lv_iconst (v := 1) hx hb dX2_processTableWithSalt_117 (by decide) ?_
      refine lv_iadd hx hb dX2_processTableWithSalt_118 ?_
      refine cx_top (nI (2 * (2 * q) + 1)) ((nI_1 (4 * q)).trans (congrArg nI (by omega))) ?_
      refine lv_iload hx hb dX2_processTableWithSalt_119 (lv_at hl 4 rfl) ?_
      refine cx_iast hx hb hK hP hD hS 2 0 rfl rfl ((2 * (2 * q) + 1)) (rfl) (by omega) (by decide) dX2_processTableWithSalt_121 (fun H locs hP hD hS => ?_)
      have hP : va_P (dC, dI) vwCl [(h0, .inr (2, [.ref aS, .ref aP])), aI cI aS 1024 fS, aI cI aP 18 (upd (upd g (2 * (2 * q)) z3) (2 * (2 * q) + 1) zl), aI cI aK nK a] H := hP
      have hD : va_D A [(h0, .inr (2, [.ref aS, .ref aP])), aI cI aS 1024 fS, aI cI aP 18 (upd (upd g (2 * (2 * q)) z3) (2 * (2 * q) + 1) zl), aI cI aK nK a] := hD
      obtain ⟨b1, b2, b3⟩ := bf_blkP (w := w) (k := 2 * q) (by omega) hg hvl hvr hzl hzr ez3
      generalize hg1 : upd (upd g (2 * (2 * q)) z3) (2 * (2 * q) + 1) zl = g1 at hP hD b1
      refine lv_aload_n hx hb dX2_processTableWithSalt_122 rfl (lv_at hl 3 rfl) ?_
      refine lv_iconst (v := 2) hx hb dX2_processTableWithSalt_123 (by decide) ?_
      refine cx_iald hx hb hK hP 3 0 rfl rfl (2) (rfl) (by omega) (by omega) dX2_processTableWithSalt_124 ?_
      refine lv_iload hx hb dX2_processTableWithSalt_125 (lv_at hl 0 rfl) ?_
      refine lv_ixor hx hb dX2_processTableWithSalt_127 ?_
      refine lv_topi (fun v7 ev7 => ?_)
      refine lv_istore (lv' := [(7, .int v7), (6, .int z3), (0, .ref h0), (1, .ref aP), (2, .ref aK), (5, .int zl), (9, .int (nI 18)), (10, .int (nI (4 * q)))]) hx hb dX2_processTableWithSalt_128 hl (by decide) rfl (fun ls hl => ?_)
      refine lv_aload_n hx hb dX2_processTableWithSalt_130 rfl (lv_at hl 4 rfl) ?_
      refine lv_iconst (v := 3) hx hb dX2_processTableWithSalt_131 (by decide) ?_
      refine cx_iald hx hb hK hP 3 0 rfl rfl (3) (rfl) (by omega) (by omega) dX2_processTableWithSalt_132 ?_
      refine lv_iload hx hb dX2_processTableWithSalt_133 (lv_at hl 5 rfl) ?_
      refine lv_ixor hx hb dX2_processTableWithSalt_135 ?_
      refine lv_topi (fun v8 ev8 => ?_)
      refine lv_istore (lv' := [(8, .int v8), (7, .int v7), (6, .int z3), (0, .ref h0), (1, .ref aP), (2, .ref aK), (5, .int zl), (9, .int (nI 18)), (10, .int (nI (4 * q)))]) hx hb dX2_processTableWithSalt_136 hl (by decide) rfl (fun ls hl => ?_)
      refine lv_iload hx hb dX2_processTableWithSalt_138 (lv_at hl 8 rfl) ?_
      refine lv_iconst (v := 2) hx hb dX2_processTableWithSalt_140 (by decide) ?_
      refine lv_iadd hx hb dX2_processTableWithSalt_141 ?_
      refine cx_top (nI (4 * q + 2)) (nI_add (4 * q) 2) ?_
      refine lv_iload hx hb dX2_processTableWithSalt_142 (lv_at hl 7 rfl) ?_
      refine lv_icmp_lt (tgt := 150) hx hb dX2_processTableWithSalt_144 (by decide) (fun _ => ?_) (fun c9 => absurd (nI_lt (by omega) (by omega)) c9)
      have hx7 : v7 = (bf_run w 0 (2 * q + 1) (T, i1, i2)).2.1 ^^^ (w (2 * q + 1)).1 := by rw [(hw q).2, ev7, b2]; exact Int32.xor_comm _ _
      have hx8 : v8 = (bf_run w 0 (2 * q + 1) (T, i1, i2)).2.2 ^^^ (w (2 * q + 1)).2 := by rw [(hw q).2, ev8, b3]; exact Int32.xor_comm _ _
      clear inner
      refine lv_iload hx hb dX2_processTableWithSalt_150 (lv_at hl 1 rfl) ?_
      refine lv_aload_n hx hb dX2_processTableWithSalt_152 rfl (lv_at hl 3 rfl) ?_
      refine va_get (D := (dC, dI)) (ci := 2) (v := .ref aP) (C := RX2) (T := TX2) (N := 2) hx hb hts in_X2 hown hK hP 0 rfl rfl 1 (by decide) (hts _ q151) (fun _ h9 => h9) rfl dX2_processTableWithSalt_153 ?_
      refine lv_iconst (v := 0) hx hb dX2_processTableWithSalt_156 (by decide) ?_
      refine cx_iald hx hb hK hP 2 0 rfl rfl (0) (rfl) (by decide) (by decide) dX2_processTableWithSalt_157 ?_
      refine lv_ixor hx hb dX2_processTableWithSalt_158 ?_
      refine lv_topi (fun v1 ev1 => ?_)
      refine lv_istore (lv' := [(7, .int v1), (8, .int v8), (6, .int z3), (0, .ref h0), (1, .ref aP), (2, .ref aK), (5, .int zl), (9, .int (nI 18)), (10, .int (nI (4 * q)))]) hx hb dX2_processTableWithSalt_159 hl (by decide) rfl (fun ls hl => ?_)
      refine lv_iconst (v := nI (2 * 0 + 1)) hx hb dX2_processTableWithSalt_161 (by decide) ?_
      refine lv_istore (lv' := [(11, .int (nI (2 * 0 + 1))), (7, .int v1), (8, .int v8), (6, .int z3), (0, .ref h0), (1, .ref aP), (2, .ref aK), (5, .int zl), (9, .int (nI 18)), (10, .int (nI (4 * q)))]) hx hb dX2_processTableWithSalt_162 hl (by decide) rfl (fun ls hl => ?_)
      have inner : ∀ (k j : Nat), j + k = 8 → ∀ (yl yr : Int32) (ls : Array Slot), yl = (bf_rds g1 fS (2 * j) (v7, v8)).1 ^^^ g1 (2 * j) → yr = (bf_rds g1 fS (2 * j) (v7, v8)).2 → (∀ (yl yr : Int32) (ls : Array Slot), yl = (bf_rds g1 fS 16 (v7, v8)).1 ^^^ g1 16 → yr = (bf_rds g1 fS 16 (v7, v8)).2 → lv_has ls 12 [(0, .ref h0), (1, .ref aP), (2, .ref aK), (7, .int yl), (8, .int yr), (9, .int (nI 18)), (10, .int (nI (4 * q)))] → W p l e (headSpec (ws_ yX2_processTableWithSalt cX2_processTableWithSalt 12 none) ({ frames := 1, cells := 0, slots := 0, locals := 21 } : Room)).room s m ([.ref h0, .ref aP, .ref aK, .int i1, .int i2] : List Value).toArray below meth c H locs 0 0 Q (F0 m 217 ls [])) → lv_has ls 12 [(0, .ref h0), (1, .ref aP), (2, .ref aK), (7, .int yl), (8, .int yr), (9, .int (nI 18)), (10, .int (nI (4 * q))), (11, .int (nI (2 * j + 1)))] → W p l e (headSpec (ws_ yX2_processTableWithSalt cX2_processTableWithSalt 12 none) ({ frames := 1, cells := 0, slots := 0, locals := 21 } : Room)).room s m ([.ref h0, .ref aP, .ref aK, .int i1, .int i2] : List Value).toArray below meth c H locs 0 0 Q (F0 m 164 ls []) := by
        intro k
        induction k with
        | zero =>
          intro j hj yl yr ls hyl hyr kx hl
          refine lv_iload hx hb dX2_processTableWithSalt_164 (lv_at hl 7 rfl) ?_
          refine lv_bipush (v := nI 16) hx hb dX2_processTableWithSalt_166 (by decide) ?_
          refine lv_icmp_ge (tgt := 217) hx hb dX2_processTableWithSalt_168 (by decide) (fun _ => ?_) (fun c9 => absurd (nI_le (by omega) (by omega)) c9)
          have hj8 : j = 8 := by omega
          subst hj8
          exact kx yl yr ls hyl hyr (lv_sub hl [0, 1, 2, 3, 4, 5, 6] rfl)
        | succ k ih =>
          intro j hj yl yr ls hyl hyr kx hl
          refine lv_iload hx hb dX2_processTableWithSalt_164 (lv_at hl 7 rfl) ?_
          refine lv_bipush (v := nI 16) hx hb dX2_processTableWithSalt_166 (by decide) ?_
          refine lv_icmp_ge (tgt := 217) hx hb dX2_processTableWithSalt_168 (by decide) (fun c9 => absurd c9 (nI_ge (by omega) (by omega))) (fun _ => ?_)
          refine lv_iload hx hb dX2_processTableWithSalt_171 (lv_at hl 4 rfl) ?_
          refine lv_aload_n hx hb dX2_processTableWithSalt_173 rfl (lv_at hl 0 rfl) ?_
          refine lv_iload hx hb dX2_processTableWithSalt_174 (lv_at hl 3 rfl) ?_
          refine vp_callSi (va_runV (As := [.int yl]) (rest := [.int yr]) ⟨hx, hb, hml, hown, hts⟩ (met_F l dC dI cI cB h0 aS aP fS yl) (cwV 1 hts (lw_V q212 q214 qs5 q13 q215) rfl rfl rfl (by decide +kernel) ⟨Nat.le_of_ble_eq_true rfl, Nat.le_of_ble_eq_true rfl⟩) (cx_ppV (ci := 2) (q0 := 0) rfl rfl hP hK [0, 1] rfl) rfl rfl hl.1 rfl (lv_room (Nat.le_of_ble_eq_true rfl)) dX2_processTableWithSalt_176 ⟨Nat.le_of_ble_eq_true rfl, Nat.le_of_ble_eq_true rfl⟩).run (fun r_1 hr_1 => ?_)
          obtain rfl : r_1 = bf_F fS yl := hr_1
          refine lv_aload_n hx hb dX2_processTableWithSalt_179 rfl (lv_at hl 0 rfl) ?_
          refine va_get (D := (dC, dI)) (ci := 2) (v := .ref aP) (C := RX2) (T := TX2) (N := 2) hx hb hts in_X2 hown hK hP 0 rfl rfl 1 (by decide) (hts _ q151) (fun _ h9 => h9) rfl dX2_processTableWithSalt_180 ?_
          refine lv_iload hx hb dX2_processTableWithSalt_183 (lv_at hl 7 rfl) ?_
          refine cx_iald hx hb hK hP 2 0 rfl rfl ((2 * j + 1)) (rfl) (by omega) (by decide) dX2_processTableWithSalt_185 ?_
          refine lv_ixor hx hb dX2_processTableWithSalt_186 ?_
          refine lv_ixor hx hb dX2_processTableWithSalt_187 ?_
          refine lv_topi (fun zr ezr => ?_)
          refine lv_istore (lv' := [(8, .int zr), (0, .ref h0), (1, .ref aP), (2, .ref aK), (7, .int yl), (9, .int (nI 18)), (10, .int (nI (4 * q))), (11, .int (nI (2 * j + 1)))]) hx hb dX2_processTableWithSalt_188 hl (by decide) rfl (fun ls hl => ?_)
          refine lv_iload hx hb dX2_processTableWithSalt_190 (lv_at hl 4 rfl) ?_
          refine lv_aload_n hx hb dX2_processTableWithSalt_192 rfl (lv_at hl 1 rfl) ?_
          refine lv_iload hx hb dX2_processTableWithSalt_193 (lv_at hl 0 rfl) ?_
          refine vp_callSi (va_runV (As := [.int zr]) (rest := [.int yl]) ⟨hx, hb, hml, hown, hts⟩ (met_F l dC dI cI cB h0 aS aP fS zr) (cwV 1 hts (lw_V q212 q214 qs5 q13 q215) rfl rfl rfl (by decide +kernel) ⟨Nat.le_of_ble_eq_true rfl, Nat.le_of_ble_eq_true rfl⟩) (cx_ppV (ci := 2) (q0 := 0) rfl rfl hP hK [0, 1] rfl) rfl rfl hl.1 rfl (lv_room (Nat.le_of_ble_eq_true rfl)) dX2_processTableWithSalt_195 ⟨Nat.le_of_ble_eq_true rfl, Nat.le_of_ble_eq_true rfl⟩).run (fun r_2 hr_2 => ?_)
          obtain rfl : r_2 = bf_F fS zr := hr_2
          refine lv_aload_n hx hb dX2_processTableWithSalt_198 rfl (lv_at hl 1 rfl) ?_
          refine va_get (D := (dC, dI)) (ci := 2) (v := .ref aP) (C := RX2) (T := TX2) (N := 2) hx hb hts in_X2 hown hK hP 0 rfl rfl 1 (by decide) (hts _ q151) (fun _ h9 => h9) rfl dX2_processTableWithSalt_199 ?_
          refine lv_iload hx hb dX2_processTableWithSalt_202 (lv_at hl 7 rfl) ?_
          refine lv_iconst (v := 1) hx hb dX2_processTableWithSalt_204 (by decide) ?_
          refine lv_iadd hx hb dX2_processTableWithSalt_205 ?_
          refine cx_top (nI (2 * j + 1 + 1)) (nI_1 (2 * j + 1)) ?_
          refine cx_iald hx hb hK hP 2 0 rfl rfl ((2 * j + 1 + 1)) (rfl) (by omega) (by decide) dX2_processTableWithSalt_206 ?_
          refine lv_ixor hx hb dX2_processTableWithSalt_207 ?_
          refine lv_ixor hx hb dX2_processTableWithSalt_208 ?_
          refine lv_topi (fun zl ezl => ?_)
          refine lv_istore (lv' := [(7, .int zl), (8, .int zr), (0, .ref h0), (1, .ref aP), (2, .ref aK), (9, .int (nI 18)), (10, .int (nI (4 * q))), (11, .int (nI (2 * j + 1)))]) hx hb dX2_processTableWithSalt_209 hl (by decide) rfl (fun ls hl => ?_)
          refine lv_iinc (v := nI (2 * (j + 1) + 1)) (lv' := [(11, .int (nI (2 * (j + 1) + 1))), (7, .int zl), (8, .int zr), (0, .ref h0), (1, .ref aP), (2, .ref aK), (9, .int (nI 18)), (10, .int (nI (4 * q)))]) hx hb dX2_processTableWithSalt_211 hl (k := 7) rfl (by rw [show 2 * (j + 1) + 1 = 2 * j + 1 + 2 by omega]; exact nI_add (2 * j + 1) 2) (by decide) rfl (fun ls hl => ?_)
          refine lv_goto (tgt := 164) hx hb dX2_processTableWithSalt_214 (by decide) ?_
          obtain ⟨g1, g2⟩ := bf_two hyl hyr ezr ezl
          exact ih (j + 1) (by omega) zl zr ls g1 g2 kx (lv_sub hl [3, 4, 5, 1, 2, 6, 7, 0] rfl)
      refine inner 8 0 rfl _ _ ls (ev1) (rfl) (fun ul ur ls hul hur hl => ?_) (lv_sub hl [4, 5, 6, 1, 2, 8, 9, 0] rfl)
      refine lv_iload hx hb dX2_processTableWithSalt_217 (lv_at hl 4 rfl) ?_
      refine lv_aload_n hx hb dX2_processTableWithSalt_219 rfl (lv_at hl 0 rfl) ?_
      refine va_get (D := (dC, dI)) (ci := 2) (v := .ref aP) (C := RX2) (T := TX2) (N := 2) hx hb hts in_X2 hown hK hP 0 rfl rfl 1 (by decide) (hts _ q151) (fun _ h9 => h9) rfl dX2_processTableWithSalt_220 ?_
      refine lv_bipush (v := 17) hx hb dX2_processTableWithSalt_223 (by decide) ?_
      refine cx_iald hx hb hK hP 2 0 rfl rfl (17) (rfl) (by decide) (by decide) dX2_processTableWithSalt_225 ?_
      refine lv_ixor hx hb dX2_processTableWithSalt_226 ?_
      refine lv_topi (fun u3 eu3 => ?_)
      refine lv_istore (lv' := [(8, .int u3), (0, .ref h0), (1, .ref aP), (2, .ref aK), (7, .int ul), (9, .int (nI 18)), (10, .int (nI (4 * q)))]) hx hb dX2_processTableWithSalt_227 hl (by decide) rfl (fun ls hl => ?_)
      refine lv_aload_n hx hb dX2_processTableWithSalt_229 rfl (lv_at hl 2 rfl) ?_
      refine lv_iload hx hb dX2_processTableWithSalt_230 (lv_at hl 6 rfl) ?_
      refine lv_iconst (v := 2) hx hb dX2_processTableWithSalt_232 (by decide) ?_
      refine lv_iadd hx hb dX2_processTableWithSalt_233 ?_
      refine cx_top (nI (2 * (2 * q + 1))) ((nI_add (4 * q) 2).trans (congrArg nI (by omega))) ?_
      refine lv_iload hx hb dX2_processTableWithSalt_234 (lv_at hl 0 rfl) ?_
      refine cx_iast hx hb hK hP hD hS 2 0 rfl rfl ((2 * (2 * q + 1))) (rfl) (by omega) (by decide) dX2_processTableWithSalt_236 (fun H locs hP hD hS => ?_)
      have hP : va_P (dC, dI) vwCl [(h0, .inr (2, [.ref aS, .ref aP])), aI cI aS 1024 fS, aI cI aP 18 (upd g1 (2 * (2 * q + 1)) u3), aI cI aK nK a] H := hP
      have hD : va_D A [(h0, .inr (2, [.ref aS, .ref aP])), aI cI aS 1024 fS, aI cI aP 18 (upd g1 (2 * (2 * q + 1)) u3), aI cI aK nK a] := hD
      refine lv_aload_n hx hb dX2_processTableWithSalt_237 rfl (lv_at hl 2 rfl) ?_
      refine lv_iload hx hb dX2_processTableWithSalt_238 (lv_at hl 6 rfl) ?_
      refine lv_iconst (v := 3) hx hb dX2_processTableWithSalt_240 (by decide) ?_
      refine lv_iadd hx hb dX2_processTableWithSalt_241 ?_
      refine cx_top (nI (2 * (2 * q + 1) + 1)) ((nI_add (4 * q) 3).trans (congrArg nI (by omega))) ?_
      refine lv_iload hx hb dX2_processTableWithSalt_242 (lv_at hl 4 rfl) ?_
      refine cx_iast hx hb hK hP hD hS 2 0 rfl rfl ((2 * (2 * q + 1) + 1)) (rfl) (by omega) (by decide) dX2_processTableWithSalt_244 (fun H locs hP hD hS => ?_)
      have hP : va_P (dC, dI) vwCl [(h0, .inr (2, [.ref aS, .ref aP])), aI cI aS 1024 fS, aI cI aP 18 (upd (upd g1 (2 * (2 * q + 1)) u3) (2 * (2 * q + 1) + 1) ul), aI cI aK nK a] H := hP
      have hD : va_D A [(h0, .inr (2, [.ref aS, .ref aP])), aI cI aS 1024 fS, aI cI aP 18 (upd (upd g1 (2 * (2 * q + 1)) u3) (2 * (2 * q + 1) + 1) ul), aI cI aK nK a] := hD
      obtain ⟨d1, d2, d3⟩ := bf_blkP (w := w) (k := 2 * q + 1) (by omega) (q := (bf_run w 0 (2 * q + 1) (T, i1, i2))) b1 hx7 hx8 hul hur eu3
      refine lv_aload_n hx hb dX2_processTableWithSalt_245 rfl (lv_at hl 3 rfl) ?_
      refine lv_iconst (v := 0) hx hb dX2_processTableWithSalt_246 (by decide) ?_
      refine cx_iald hx hb hK hP 3 0 rfl rfl (0) (rfl) (by omega) (by omega) dX2_processTableWithSalt_247 ?_
      refine lv_iload hx hb dX2_processTableWithSalt_248 (lv_at hl 0 rfl) ?_
      refine lv_ixor hx hb dX2_processTableWithSalt_250 ?_
      refine lv_topi (fun w5 ew5 => ?_)
      refine lv_istore (lv' := [(5, .int w5), (8, .int u3), (0, .ref h0), (1, .ref aP), (2, .ref aK), (7, .int ul), (9, .int (nI 18)), (10, .int (nI (4 * q)))]) hx hb dX2_processTableWithSalt_251 hl (by decide) rfl (fun ls hl => ?_)
      refine lv_aload_n hx hb dX2_processTableWithSalt_253 rfl (lv_at hl 4 rfl) ?_
      refine lv_iconst (v := 1) hx hb dX2_processTableWithSalt_254 (by decide) ?_
      refine cx_iald hx hb hK hP 3 0 rfl rfl (1) (rfl) (by omega) (by omega) dX2_processTableWithSalt_255 ?_
      refine lv_iload hx hb dX2_processTableWithSalt_256 (lv_at hl 5 rfl) ?_
      refine lv_ixor hx hb dX2_processTableWithSalt_258 ?_
      refine lv_topi (fun w6 ew6 => ?_)
      refine lv_istore (lv' := [(6, .int w6), (5, .int w5), (8, .int u3), (0, .ref h0), (1, .ref aP), (2, .ref aK), (7, .int ul), (9, .int (nI 18)), (10, .int (nI (4 * q)))]) hx hb dX2_processTableWithSalt_259 hl (by decide) rfl (fun ls hl => ?_)
      refine lv_iinc (v := nI (4 * (q + 1))) (lv' := [(10, .int (nI (4 * (q + 1)))), (6, .int w6), (5, .int w5), (8, .int u3), (0, .ref h0), (1, .ref aP), (2, .ref aK), (7, .int ul), (9, .int (nI 18))]) hx hb dX2_processTableWithSalt_261 hl (k := 8) rfl (nI_add (4 * q) 4) (by decide) rfl (fun ls hl => ?_)
      refine lv_goto (tgt := 22) hx hb dX2_processTableWithSalt_264 (by decide) ?_
      have c1 : w (2 * (q + 1)) = (a 0, a 1) := (hw (q + 1)).1
      have a1 : bf_Ag (upd (upd g1 (2 * (2 * q + 1)) u3) (2 * (2 * q + 1) + 1) ul) fS (bf_run w 0 (2 * (q + 1)) (T, i1, i2)).1 := by rw [show 2 * (q + 1) = 2 * q + 1 + 1 by omega]; exact d1
      have a2 : w5 = (bf_run w 0 (2 * (q + 1)) (T, i1, i2)).2.1 ^^^ (w (2 * (q + 1))).1 := by rw [c1, show 2 * (q + 1) = 2 * q + 1 + 1 by omega, ew5, d2]; exact Int32.xor_comm _ _
      have a3 : w6 = (bf_run w 0 (2 * (q + 1)) (T, i1, i2)).2.2 ^^^ (w (2 * (q + 1))).2 := by rw [c1, show 2 * (q + 1) = 2 * q + 1 + 1 by omega, ew6, d3]; exact Int32.xor_comm _ _
      exact ih (q + 1) (by omega) _ w5 w6 H locs ls a1 a2 a3 hP hD hS (lv_sub hl [4, 5, 6, 2, 1, 8, 0] rfl)
  have s1 : v5 = i1 ^^^ (w (2 * 0)).1 := by rw [(hw 0).1, ev5]
  have s2 : v6 = i2 ^^^ (w (2 * 0)).2 := by rw [(hw 0).1, ev6]
  exact loop 4 0 (by omega) fP v5 v6 _ _ ls hT s1 s2 hP hD hS (lv_sub hl [4, 5, 6, 3, 2, 1, 0] rfl)
set_option maxHeartbeats 4000000 in
set_option maxRecDepth 100000 in
/-- BCrypt.processTableWithSalt(S, salt32, iv1, iv2) -/
theorem met_psS (l : Launch) (dC : Nat → ClassId) (dI : Nat → Nat → Nat) (cI cB : ClassId) (h0 aS aP aK nK : Nat) (T fP fS a : Nat → Int32) (w : Nat → Int32 × Int32) (i1 i2 : Int32) (hT : bf_Ag fP fS T) (hnK : 4 ≤ nK) (hnK2 : nK < 2 ^ 30) (hw : ∀ k, w (2 * k + 9) = (a 0, a 1) ∧ w (2 * k + 1 + 9) = (a 2, a 3)) (sz : Nat) : Met l yX2_processTableWithSalt (ws_ yX2_processTableWithSalt cX2_processTableWithSalt 12 none) ({ frames := 1, cells := 0, slots := 0, locals := 21 } : Room) (cx_Pre (dC, dI) (tyL cI cB) [.ref h0, .ref aS, .ref aK, .int i1, .int i2] [(h0, .inr (2, [.ref aS, .ref aP])), aI cI aS 1024 fS, aI cI aP 18 fP, aI cI aK nK a] sz cx_No) (cx_Qv (S := Nat → Int32) (dC, dI) [(h0, .inr (2, [.ref aS, .ref aP])), aI cI aS 1024 fS, aI cI aP 18 fP, aI cI aK nK a] sz (fun u => bf_Ag fP u (bf_run w 9 512 (T, i1, i2)).1) (fun u => [oBC h0 aS aP, aI cI aS 1024 u, aI cI aP 18 fP, aI cI aK nK a])) 0 0 (va_A [(h0, .inr (2, [.ref aS, .ref aP])), aI cI aS 1024 fS, aI cI aP 18 fP, aI cI aK nK a] sz) := by
  refine Met.ofW (cc := cX2_processTableWithSalt) (maxL := 12) (ret := none) (by decide) rfl ?_
  intro p e s m args below meth c s₁ B hml hv
  obtain ⟨rfl, hsz, hP, hK, hD0, hE⟩ := hv
  have hx := B.exec
  have hb := B.bytes
  have hr := B.returns
  have hts := atoms_spec (ws := (ws_ yX2_processTableWithSalt cX2_processTableWithSalt 12 none)) B.pre
  have hts : ∀ w ∈ lw_all, w.before _ s = true := fun w h => hts w (List.mem_cons_of_mem _ h)
  have hown : s.vm.findClass RX2 = some m.cls := findClass_of_methodNamed B.named
  have hlocks := B.notSynchronized
  subst hsz
  obtain ⟨A, hAe⟩ : ∃ A : Nat → Prop, A = va_A [(h0, .inr (2, [.ref aS, .ref aP])), aI cI aS 1024 fS, aI cI aP 18 fP, aI cI aK nK a] s.heap.size := ⟨_, rfl⟩
  have hD : va_D A [(h0, .inr (2, [.ref aS, .ref aP])), aI cI aS 1024 fS, aI cI aP 18 fP, aI cI aK nK a] := by rw [hAe]; exact hD0.self
  have hA : ∀ q : Nat, s.heap.size ≤ q → A q := fun q h => by rw [hAe]; exact Or.inr h
  have hS : va_S A s.heap s.heap [] := va_S.rf
  refine cx_Q (fun Q hQe => ?_)
  have hP : va_P (dC, dI) vwCl [(h0, .inr (2, [.ref aS, .ref aP])), aI cI aS 1024 fS, aI cI aP 18 fP, aI cI aK nK a] s.heap := hP
  have hl := lv_entry ([.ref h0, .ref aS, .ref aK, .int i1, .int i2]) (n := 12) (Nat.le_of_ble_eq_true rfl)
  rw [lg_entry_eq]
  generalize (lg_sl ([.ref h0, .ref aS, .ref aK, .int i1, .int i2]) ++ List.replicate (12 - (lg_sl ([.ref h0, .ref aS, .ref aK, .int i1, .int i2])).length) Slot.unset).toArray = ls at hl ⊢
  have hl : lv_has ls 12 [(0, .ref h0), (1, .ref aS), (2, .ref aK), (3, .int i1), (4, .int i2)] := hl
  refine lv_iload_n hx hb dX2_processTableWithSalt_0 rfl (lv_at hl 3 rfl) ?_
  refine lv_aload_n hx hb dX2_processTableWithSalt_1 rfl (lv_at hl 2 rfl) ?_
  refine lv_iconst (v := 0) hx hb dX2_processTableWithSalt_2 (by decide) ?_
  refine cx_iald hx hb hK hP 3 0 rfl rfl (0) (rfl) (by omega) (by omega) dX2_processTableWithSalt_3 ?_
  refine lv_ixor hx hb dX2_processTableWithSalt_4 ?_
  refine lv_topi (fun v5 ev5 => ?_)
  refine lv_istore (lv' := [(5, .int v5), (0, .ref h0), (1, .ref aS), (2, .ref aK), (3, .int i1), (4, .int i2)]) hx hb dX2_processTableWithSalt_5 hl (by decide) rfl (fun ls hl => ?_)
  refine lv_iload hx hb dX2_processTableWithSalt_7 (lv_at hl 5 rfl) ?_
  refine lv_aload_n hx hb dX2_processTableWithSalt_9 rfl (lv_at hl 3 rfl) ?_
  refine lv_iconst (v := 1) hx hb dX2_processTableWithSalt_10 (by decide) ?_
  refine cx_iald hx hb hK hP 3 0 rfl rfl (1) (rfl) (by omega) (by omega) dX2_processTableWithSalt_11 ?_
  refine lv_ixor hx hb dX2_processTableWithSalt_12 ?_
  refine lv_topi (fun v6 ev6 => ?_)
  refine lv_istore (lv' := [(6, .int v6), (5, .int v5), (0, .ref h0), (1, .ref aS), (2, .ref aK), (3, .int i1), (4, .int i2)]) hx hb dX2_processTableWithSalt_13 hl (by decide) rfl (fun ls hl => ?_)
  refine lv_aload_n hx hb dX2_processTableWithSalt_15 rfl (lv_at hl 3 rfl) ?_
  refine va_alen (v := nI 1024) hx hb hK hP 1 0 rfl rfl rfl dX2_processTableWithSalt_16 ?_
  refine lv_istore (lv' := [(9, .int (nI 1024)), (6, .int v6), (5, .int v5), (0, .ref h0), (1, .ref aS), (2, .ref aK), (3, .int i1), (4, .int i2)]) hx hb dX2_processTableWithSalt_17 hl (by decide) rfl (fun ls hl => ?_)
  refine lv_iconst (v := nI 0) hx hb dX2_processTableWithSalt_19 (by decide) ?_
  refine lv_istore (lv' := [(10, .int (nI 0)), (9, .int (nI 1024)), (6, .int v6), (5, .int v5), (0, .ref h0), (1, .ref aS), (2, .ref aK), (3, .int i1), (4, .int i2)]) hx hb dX2_processTableWithSalt_20 hl (by decide) rfl (fun ls hl => ?_)
  have loop : ∀ (k q : Nat), q + k = 256 → ∀ (g : Nat → Int32) (vl vr : Int32) (H : Heap) (locs : List Loc) (ls : Array Slot), bf_Ag fP g (bf_run w 9 (2 * q) (T, i1, i2)).1 → vl = (bf_run w 9 (2 * q) (T, i1, i2)).2.1 ^^^ (w (2 * q + 9)).1 → vr = (bf_run w 9 (2 * q) (T, i1, i2)).2.2 ^^^ (w (2 * q + 9)).2 → va_P (dC, dI) vwCl [(h0, .inr (2, [.ref aS, .ref aP])), aI cI aS 1024 g, aI cI aP 18 fP, aI cI aK nK a] H → va_D A [(h0, .inr (2, [.ref aS, .ref aP])), aI cI aS 1024 g, aI cI aP 18 fP, aI cI aK nK a] → va_S A s.heap H locs → lv_has ls 12 [(0, .ref h0), (1, .ref aS), (2, .ref aK), (5, .int vl), (6, .int vr), (9, .int (nI 1024)), (10, .int (nI (4 * q)))] → W p l e (headSpec (ws_ yX2_processTableWithSalt cX2_processTableWithSalt 12 none) ({ frames := 1, cells := 0, slots := 0, locals := 21 } : Room)).room s m ([.ref h0, .ref aS, .ref aK, .int i1, .int i2] : List Value).toArray below meth c H locs 0 0 Q (F0 m 22 ls []) := by
    intro k
    induction k with
    | zero =>
      intro q hq g vl vr H locs ls hg hvl hvr hP hD hS hl
      refine lv_iload hx hb dX2_processTableWithSalt_22 (lv_at hl 6 rfl) ?_
      refine lv_iload hx hb dX2_processTableWithSalt_24 (lv_at hl 5 rfl) ?_
      refine lv_icmp_ge (tgt := 267) hx hb dX2_processTableWithSalt_26 (by decide) (fun _ => ?_) (fun c9 => absurd (nI_le (by omega) (by omega)) c9)
      have hq4 : q = 256 := by omega
      subst hq4
      subst hQe
      subst hAe
      exact W.vret hx hb hr (fun t ht hW => ⟨⟨g, rfl, hg, by rw [ht]; exact hP.sub [0, 1, 2, 3] rfl, hD.sub [0, 1, 2, 3] (by decide) rfl⟩, hS.F ht⟩) hS.2.2 dX2_processTableWithSalt_267
    | succ k ih =>
      intro q hq g vl vr H locs ls hg hvl hvr hP hD hS hl
      refine lv_iload hx hb dX2_processTableWithSalt_22 (lv_at hl 6 rfl) ?_
      refine lv_iload hx hb dX2_processTableWithSalt_24 (lv_at hl 5 rfl) ?_
      refine lv_icmp_ge (tgt := 267) hx hb dX2_processTableWithSalt_26 (by decide) (fun c9 => absurd c9 (nI_ge (by omega) (by omega))) (fun _ => ?_)
      refine lv_iload hx hb dX2_processTableWithSalt_29 (lv_at hl 3 rfl) ?_
      refine lv_aload_n hx hb dX2_processTableWithSalt_31 rfl (lv_at hl 0 rfl) ?_
      refine va_get (D := (dC, dI)) (ci := 2) (v := .ref aP) (C := RX2) (T := TX2) (N := 2) hx hb hts in_X2 hown hK hP 0 rfl rfl 1 (by decide) (hts _ q151) (fun _ h9 => h9) rfl dX2_processTableWithSalt_32 ?_
      refine lv_iconst (v := 0) hx hb dX2_processTableWithSalt_35 (by decide) ?_
      refine cx_iald hx hb hK hP 2 0 rfl rfl (0) (rfl) (by decide) (by decide) dX2_processTableWithSalt_36 ?_
      refine lv_ixor hx hb dX2_processTableWithSalt_37 ?_
      refine lv_topi (fun v0 ev0 => ?_)
      refine lv_istore (lv' := [(5, .int v0), (0, .ref h0), (1, .ref aS), (2, .ref aK), (6, .int vr), (9, .int (nI 1024)), (10, .int (nI (4 * q)))]) hx hb dX2_processTableWithSalt_38 hl (by decide) rfl (fun ls hl => ?_)
      refine lv_iconst (v := nI (2 * 0 + 1)) hx hb dX2_processTableWithSalt_40 (by decide) ?_
      refine lv_istore (lv' := [(11, .int (nI (2 * 0 + 1))), (5, .int v0), (0, .ref h0), (1, .ref aS), (2, .ref aK), (6, .int vr), (9, .int (nI 1024)), (10, .int (nI (4 * q)))]) hx hb dX2_processTableWithSalt_41 hl (by decide) rfl (fun ls hl => ?_)
      have inner : ∀ (k j : Nat), j + k = 8 → ∀ (yl yr : Int32) (ls : Array Slot), yl = (bf_rds fP g (2 * j) (vl, vr)).1 ^^^ fP (2 * j) → yr = (bf_rds fP g (2 * j) (vl, vr)).2 → (∀ (yl yr : Int32) (ls : Array Slot), yl = (bf_rds fP g 16 (vl, vr)).1 ^^^ fP 16 → yr = (bf_rds fP g 16 (vl, vr)).2 → lv_has ls 12 [(0, .ref h0), (1, .ref aS), (2, .ref aK), (5, .int yl), (6, .int yr), (9, .int (nI 1024)), (10, .int (nI (4 * q)))] → W p l e (headSpec (ws_ yX2_processTableWithSalt cX2_processTableWithSalt 12 none) ({ frames := 1, cells := 0, slots := 0, locals := 21 } : Room)).room s m ([.ref h0, .ref aS, .ref aK, .int i1, .int i2] : List Value).toArray below meth c H locs 0 0 Q (F0 m 96 ls [])) → lv_has ls 12 [(0, .ref h0), (1, .ref aS), (2, .ref aK), (5, .int yl), (6, .int yr), (9, .int (nI 1024)), (10, .int (nI (4 * q))), (11, .int (nI (2 * j + 1)))] → W p l e (headSpec (ws_ yX2_processTableWithSalt cX2_processTableWithSalt 12 none) ({ frames := 1, cells := 0, slots := 0, locals := 21 } : Room)).room s m ([.ref h0, .ref aS, .ref aK, .int i1, .int i2] : List Value).toArray below meth c H locs 0 0 Q (F0 m 43 ls []) := by
        intro k
        induction k with
        | zero =>
          intro j hj yl yr ls hyl hyr kx hl
          refine lv_iload hx hb dX2_processTableWithSalt_43 (lv_at hl 7 rfl) ?_
          refine lv_bipush (v := nI 16) hx hb dX2_processTableWithSalt_45 (by decide) ?_
          refine lv_icmp_ge (tgt := 96) hx hb dX2_processTableWithSalt_47 (by decide) (fun _ => ?_) (fun c9 => absurd (nI_le (by omega) (by omega)) c9)
          have hj8 : j = 8 := by omega
          subst hj8
          exact kx yl yr ls hyl hyr (lv_sub hl [0, 1, 2, 3, 4, 5, 6] rfl)
        | succ k ih =>
          intro j hj yl yr ls hyl hyr kx hl
          refine lv_iload hx hb dX2_processTableWithSalt_43 (lv_at hl 7 rfl) ?_
          refine lv_bipush (v := nI 16) hx hb dX2_processTableWithSalt_45 (by decide) ?_
          refine lv_icmp_ge (tgt := 96) hx hb dX2_processTableWithSalt_47 (by decide) (fun c9 => absurd c9 (nI_ge (by omega) (by omega))) (fun _ => ?_)
          refine lv_iload hx hb dX2_processTableWithSalt_50 (lv_at hl 4 rfl) ?_
          refine lv_aload_n hx hb dX2_processTableWithSalt_52 rfl (lv_at hl 0 rfl) ?_
          refine lv_iload hx hb dX2_processTableWithSalt_53 (lv_at hl 3 rfl) ?_
          refine vp_callSi (va_runV (As := [.int yl]) (rest := [.int yr]) ⟨hx, hb, hml, hown, hts⟩ (met_F l dC dI cI cB h0 aS aP g yl) (cwV 1 hts (lw_V q212 q214 qs5 q13 q215) rfl rfl rfl (by decide +kernel) ⟨Nat.le_of_ble_eq_true rfl, Nat.le_of_ble_eq_true rfl⟩) (cx_ppV (ci := 2) (q0 := 0) rfl rfl hP hK [0, 1] rfl) rfl rfl hl.1 rfl (lv_room (Nat.le_of_ble_eq_true rfl)) dX2_processTableWithSalt_55 ⟨Nat.le_of_ble_eq_true rfl, Nat.le_of_ble_eq_true rfl⟩).run (fun r_1 hr_1 => ?_)
          obtain rfl : r_1 = bf_F g yl := hr_1
          refine lv_aload_n hx hb dX2_processTableWithSalt_58 rfl (lv_at hl 0 rfl) ?_
          refine va_get (D := (dC, dI)) (ci := 2) (v := .ref aP) (C := RX2) (T := TX2) (N := 2) hx hb hts in_X2 hown hK hP 0 rfl rfl 1 (by decide) (hts _ q151) (fun _ h9 => h9) rfl dX2_processTableWithSalt_59 ?_
          refine lv_iload hx hb dX2_processTableWithSalt_62 (lv_at hl 7 rfl) ?_
          refine cx_iald hx hb hK hP 2 0 rfl rfl ((2 * j + 1)) (rfl) (by omega) (by decide) dX2_processTableWithSalt_64 ?_
          refine lv_ixor hx hb dX2_processTableWithSalt_65 ?_
          refine lv_ixor hx hb dX2_processTableWithSalt_66 ?_
          refine lv_topi (fun zr ezr => ?_)
          refine lv_istore (lv' := [(6, .int zr), (0, .ref h0), (1, .ref aS), (2, .ref aK), (5, .int yl), (9, .int (nI 1024)), (10, .int (nI (4 * q))), (11, .int (nI (2 * j + 1)))]) hx hb dX2_processTableWithSalt_67 hl (by decide) rfl (fun ls hl => ?_)
          refine lv_iload hx hb dX2_processTableWithSalt_69 (lv_at hl 4 rfl) ?_
          refine lv_aload_n hx hb dX2_processTableWithSalt_71 rfl (lv_at hl 1 rfl) ?_
          refine lv_iload hx hb dX2_processTableWithSalt_72 (lv_at hl 0 rfl) ?_
          refine vp_callSi (va_runV (As := [.int zr]) (rest := [.int yl]) ⟨hx, hb, hml, hown, hts⟩ (met_F l dC dI cI cB h0 aS aP g zr) (cwV 1 hts (lw_V q212 q214 qs5 q13 q215) rfl rfl rfl (by decide +kernel) ⟨Nat.le_of_ble_eq_true rfl, Nat.le_of_ble_eq_true rfl⟩) (cx_ppV (ci := 2) (q0 := 0) rfl rfl hP hK [0, 1] rfl) rfl rfl hl.1 rfl (lv_room (Nat.le_of_ble_eq_true rfl)) dX2_processTableWithSalt_74 ⟨Nat.le_of_ble_eq_true rfl, Nat.le_of_ble_eq_true rfl⟩).run (fun r_2 hr_2 => ?_)
          obtain rfl : r_2 = bf_F g zr := hr_2
          refine lv_aload_n hx hb dX2_processTableWithSalt_77 rfl (lv_at hl 1 rfl) ?_
          refine va_get (D := (dC, dI)) (ci := 2) (v := .ref aP) (C := RX2) (T := TX2) (N := 2) hx hb hts in_X2 hown hK hP 0 rfl rfl 1 (by decide) (hts _ q151) (fun _ h9 => h9) rfl dX2_processTableWithSalt_78 ?_
          refine lv_iload hx hb dX2_processTableWithSalt_81 (lv_at hl 7 rfl) ?_
          refine lv_iconst (v := 1) hx hb dX2_processTableWithSalt_83 (by decide) ?_
          refine lv_iadd hx hb dX2_processTableWithSalt_84 ?_
          refine cx_top (nI (2 * j + 1 + 1)) (nI_1 (2 * j + 1)) ?_
          refine cx_iald hx hb hK hP 2 0 rfl rfl ((2 * j + 1 + 1)) (rfl) (by omega) (by decide) dX2_processTableWithSalt_85 ?_
          refine lv_ixor hx hb dX2_processTableWithSalt_86 ?_
          refine lv_ixor hx hb dX2_processTableWithSalt_87 ?_
          refine lv_topi (fun zl ezl => ?_)
          refine lv_istore (lv' := [(5, .int zl), (6, .int zr), (0, .ref h0), (1, .ref aS), (2, .ref aK), (9, .int (nI 1024)), (10, .int (nI (4 * q))), (11, .int (nI (2 * j + 1)))]) hx hb dX2_processTableWithSalt_88 hl (by decide) rfl (fun ls hl => ?_)
          refine lv_iinc (v := nI (2 * (j + 1) + 1)) (lv' := [(11, .int (nI (2 * (j + 1) + 1))), (5, .int zl), (6, .int zr), (0, .ref h0), (1, .ref aS), (2, .ref aK), (9, .int (nI 1024)), (10, .int (nI (4 * q)))]) hx hb dX2_processTableWithSalt_90 hl (k := 7) rfl (by rw [show 2 * (j + 1) + 1 = 2 * j + 1 + 2 by omega]; exact nI_add (2 * j + 1) 2) (by decide) rfl (fun ls hl => ?_)
          refine lv_goto (tgt := 43) hx hb dX2_processTableWithSalt_93 (by decide) ?_
          obtain ⟨g1, g2⟩ := bf_two hyl hyr ezr ezl
          exact ih (j + 1) (by omega) zl zr ls g1 g2 kx (lv_sub hl [3, 4, 5, 1, 2, 6, 7, 0] rfl)
      refine inner 8 0 rfl _ _ ls (ev0) (rfl) (fun zl zr ls hzl hzr hl => ?_) (lv_sub hl [2, 3, 4, 1, 5, 6, 7, 0] rfl)
      refine lv_iload hx hb dX2_processTableWithSalt_96 (lv_at hl 4 rfl) ?_
      refine lv_aload_n hx hb dX2_processTableWithSalt_98 rfl (lv_at hl 0 rfl) ?_
      refine va_get (D := (dC, dI)) (ci := 2) (v := .ref aP) (C := RX2) (T := TX2) (N := 2) hx hb hts in_X2 hown hK hP 0 rfl rfl 1 (by decide) (hts _ q151) (fun _ h9 => h9) rfl dX2_processTableWithSalt_99 ?_
      refine lv_bipush (v := 17) hx hb dX2_processTableWithSalt_102 (by decide) ?_
      refine cx_iald hx hb hK hP 2 0 rfl rfl (17) (rfl) (by decide) (by decide) dX2_processTableWithSalt_104 ?_
      refine lv_ixor hx hb dX2_processTableWithSalt_105 ?_
      refine lv_topi (fun z3 ez3 => ?_)
      refine lv_istore (lv' := [(6, .int z3), (0, .ref h0), (1, .ref aS), (2, .ref aK), (5, .int zl), (9, .int (nI 1024)), (10, .int (nI (4 * q)))]) hx hb dX2_processTableWithSalt_106 hl (by decide) rfl (fun ls hl => ?_)
      refine lv_aload_n hx hb dX2_processTableWithSalt_108 rfl (lv_at hl 2 rfl) ?_
      refine lv_iload hx hb dX2_processTableWithSalt_109 (lv_at hl 6 rfl) ?_
      refine lv_iload hx hb dX2_processTableWithSalt_111 (lv_at hl 0 rfl) ?_
      refine cx_iast hx hb hK hP hD hS 1 0 rfl rfl (2 * (2 * q)) (congrArg nI (by omega)) (by omega) (by decide) dX2_processTableWithSalt_113 (fun H locs hP hD hS => ?_)
      have hP : va_P (dC, dI) vwCl [(h0, .inr (2, [.ref aS, .ref aP])), aI cI aS 1024 (upd g (2 * (2 * q)) z3), aI cI aP 18 fP, aI cI aK nK a] H := hP
      have hD : va_D A [(h0, .inr (2, [.ref aS, .ref aP])), aI cI aS 1024 (upd g (2 * (2 * q)) z3), aI cI aP 18 fP, aI cI aK nK a] := hD
      refine lv_aload_n hx hb dX2_processTableWithSalt_114 rfl (lv_at hl 2 rfl) ?_
      refine lv_iload hx hb dX2_processTableWithSalt_115 (lv_at hl 6 rfl) ?_
      refine lv_iconst (v := 1) hx hb dX2_processTableWithSalt_117 (by decide) ?_
      refine lv_iadd hx hb dX2_processTableWithSalt_118 ?_
      refine cx_top (nI (2 * (2 * q) + 1)) ((nI_1 (4 * q)).trans (congrArg nI (by omega))) ?_
      refine lv_iload hx hb dX2_processTableWithSalt_119 (lv_at hl 4 rfl) ?_
      refine cx_iast hx hb hK hP hD hS 1 0 rfl rfl ((2 * (2 * q) + 1)) (rfl) (by omega) (by decide) dX2_processTableWithSalt_121 (fun H locs hP hD hS => ?_)
      have hP : va_P (dC, dI) vwCl [(h0, .inr (2, [.ref aS, .ref aP])), aI cI aS 1024 (upd (upd g (2 * (2 * q)) z3) (2 * (2 * q) + 1) zl), aI cI aP 18 fP, aI cI aK nK a] H := hP
      have hD : va_D A [(h0, .inr (2, [.ref aS, .ref aP])), aI cI aS 1024 (upd (upd g (2 * (2 * q)) z3) (2 * (2 * q) + 1) zl), aI cI aP 18 fP, aI cI aK nK a] := hD
      obtain ⟨b1, b2, b3⟩ := bf_blkS (w := w) (k := 2 * q) hg hvl hvr hzl hzr ez3
      generalize hg1 : upd (upd g (2 * (2 * q)) z3) (2 * (2 * q) + 1) zl = g1 at hP hD b1
      refine lv_aload_n hx hb dX2_processTableWithSalt_122 rfl (lv_at hl 3 rfl) ?_
      refine lv_iconst (v := 2) hx hb dX2_processTableWithSalt_123 (by decide) ?_
      refine cx_iald hx hb hK hP 3 0 rfl rfl (2) (rfl) (by omega) (by omega) dX2_processTableWithSalt_124 ?_
      refine lv_iload hx hb dX2_processTableWithSalt_125 (lv_at hl 0 rfl) ?_
      refine lv_ixor hx hb dX2_processTableWithSalt_127 ?_
      refine lv_topi (fun v7 ev7 => ?_)
      refine lv_istore (lv' := [(7, .int v7), (6, .int z3), (0, .ref h0), (1, .ref aS), (2, .ref aK), (5, .int zl), (9, .int (nI 1024)), (10, .int (nI (4 * q)))]) hx hb dX2_processTableWithSalt_128 hl (by decide) rfl (fun ls hl => ?_)
      refine lv_aload_n hx hb dX2_processTableWithSalt_130 rfl (lv_at hl 4 rfl) ?_
      refine lv_iconst (v := 3) hx hb dX2_processTableWithSalt_131 (by decide) ?_
      refine cx_iald hx hb hK hP 3 0 rfl rfl (3) (rfl) (by omega) (by omega) dX2_processTableWithSalt_132 ?_
      refine lv_iload hx hb dX2_processTableWithSalt_133 (lv_at hl 5 rfl) ?_
      refine lv_ixor hx hb dX2_processTableWithSalt_135 ?_
      refine lv_topi (fun v8 ev8 => ?_)
      refine lv_istore (lv' := [(8, .int v8), (7, .int v7), (6, .int z3), (0, .ref h0), (1, .ref aS), (2, .ref aK), (5, .int zl), (9, .int (nI 1024)), (10, .int (nI (4 * q)))]) hx hb dX2_processTableWithSalt_136 hl (by decide) rfl (fun ls hl => ?_)
      refine lv_iload hx hb dX2_processTableWithSalt_138 (lv_at hl 8 rfl) ?_
      refine lv_iconst (v := 2) hx hb dX2_processTableWithSalt_140 (by decide) ?_
      refine lv_iadd hx hb dX2_processTableWithSalt_141 ?_
      refine cx_top (nI (4 * q + 2)) (nI_add (4 * q) 2) ?_
      refine lv_iload hx hb dX2_processTableWithSalt_142 (lv_at hl 7 rfl) ?_
      refine lv_icmp_lt (tgt := 150) hx hb dX2_processTableWithSalt_144 (by decide) (fun _ => ?_) (fun c9 => absurd (nI_lt (by omega) (by omega)) c9)
      have hx7 : v7 = (bf_run w 9 (2 * q + 1) (T, i1, i2)).2.1 ^^^ (w (2 * q + 1 + 9)).1 := by rw [(hw q).2, ev7, b2]; exact Int32.xor_comm _ _
      have hx8 : v8 = (bf_run w 9 (2 * q + 1) (T, i1, i2)).2.2 ^^^ (w (2 * q + 1 + 9)).2 := by rw [(hw q).2, ev8, b3]; exact Int32.xor_comm _ _
      clear inner
      refine lv_iload hx hb dX2_processTableWithSalt_150 (lv_at hl 1 rfl) ?_
      refine lv_aload_n hx hb dX2_processTableWithSalt_152 rfl (lv_at hl 3 rfl) ?_
      refine va_get (D := (dC, dI)) (ci := 2) (v := .ref aP) (C := RX2) (T := TX2) (N := 2) hx hb hts in_X2 hown hK hP 0 rfl rfl 1 (by decide) (hts _ q151) (fun _ h9 => h9) rfl dX2_processTableWithSalt_153 ?_
      refine lv_iconst (v := 0) hx hb dX2_processTableWithSalt_156 (by decide) ?_
      refine cx_iald hx hb hK hP 2 0 rfl rfl (0) (rfl) (by decide) (by decide) dX2_processTableWithSalt_157 ?_
      refine lv_ixor hx hb dX2_processTableWithSalt_158 ?_
      refine lv_topi (fun v1 ev1 => ?_)
      refine lv_istore (lv' := [(7, .int v1), (8, .int v8), (6, .int z3), (0, .ref h0), (1, .ref aS), (2, .ref aK), (5, .int zl), (9, .int (nI 1024)), (10, .int (nI (4 * q)))]) hx hb dX2_processTableWithSalt_159 hl (by decide) rfl (fun ls hl => ?_)
      refine lv_iconst (v := nI (2 * 0 + 1)) hx hb dX2_processTableWithSalt_161 (by decide) ?_
      refine lv_istore (lv' := [(11, .int (nI (2 * 0 + 1))), (7, .int v1), (8, .int v8), (6, .int z3), (0, .ref h0), (1, .ref aS), (2, .ref aK), (5, .int zl), (9, .int (nI 1024)), (10, .int (nI (4 * q)))]) hx hb dX2_processTableWithSalt_162 hl (by decide) rfl (fun ls hl => ?_)
      have inner : ∀ (k j : Nat), j + k = 8 → ∀ (yl yr : Int32) (ls : Array Slot), yl = (bf_rds fP g1 (2 * j) (v7, v8)).1 ^^^ fP (2 * j) → yr = (bf_rds fP g1 (2 * j) (v7, v8)).2 → (∀ (yl yr : Int32) (ls : Array Slot), yl = (bf_rds fP g1 16 (v7, v8)).1 ^^^ fP 16 → yr = (bf_rds fP g1 16 (v7, v8)).2 → lv_has ls 12 [(0, .ref h0), (1, .ref aS), (2, .ref aK), (7, .int yl), (8, .int yr), (9, .int (nI 1024)), (10, .int (nI (4 * q)))] → W p l e (headSpec (ws_ yX2_processTableWithSalt cX2_processTableWithSalt 12 none) ({ frames := 1, cells := 0, slots := 0, locals := 21 } : Room)).room s m ([.ref h0, .ref aS, .ref aK, .int i1, .int i2] : List Value).toArray below meth c H locs 0 0 Q (F0 m 217 ls [])) → lv_has ls 12 [(0, .ref h0), (1, .ref aS), (2, .ref aK), (7, .int yl), (8, .int yr), (9, .int (nI 1024)), (10, .int (nI (4 * q))), (11, .int (nI (2 * j + 1)))] → W p l e (headSpec (ws_ yX2_processTableWithSalt cX2_processTableWithSalt 12 none) ({ frames := 1, cells := 0, slots := 0, locals := 21 } : Room)).room s m ([.ref h0, .ref aS, .ref aK, .int i1, .int i2] : List Value).toArray below meth c H locs 0 0 Q (F0 m 164 ls []) := by
        intro k
        induction k with
        | zero =>
          intro j hj yl yr ls hyl hyr kx hl
          refine lv_iload hx hb dX2_processTableWithSalt_164 (lv_at hl 7 rfl) ?_
          refine lv_bipush (v := nI 16) hx hb dX2_processTableWithSalt_166 (by decide) ?_
          refine lv_icmp_ge (tgt := 217) hx hb dX2_processTableWithSalt_168 (by decide) (fun _ => ?_) (fun c9 => absurd (nI_le (by omega) (by omega)) c9)
          have hj8 : j = 8 := by omega
          subst hj8
          exact kx yl yr ls hyl hyr (lv_sub hl [0, 1, 2, 3, 4, 5, 6] rfl)
        | succ k ih =>
          intro j hj yl yr ls hyl hyr kx hl
          refine lv_iload hx hb dX2_processTableWithSalt_164 (lv_at hl 7 rfl) ?_
          refine lv_bipush (v := nI 16) hx hb dX2_processTableWithSalt_166 (by decide) ?_
          refine lv_icmp_ge (tgt := 217) hx hb dX2_processTableWithSalt_168 (by decide) (fun c9 => absurd c9 (nI_ge (by omega) (by omega))) (fun _ => ?_)
          refine lv_iload hx hb dX2_processTableWithSalt_171 (lv_at hl 4 rfl) ?_
          refine lv_aload_n hx hb dX2_processTableWithSalt_173 rfl (lv_at hl 0 rfl) ?_
          refine lv_iload hx hb dX2_processTableWithSalt_174 (lv_at hl 3 rfl) ?_
          refine vp_callSi (va_runV (As := [.int yl]) (rest := [.int yr]) ⟨hx, hb, hml, hown, hts⟩ (met_F l dC dI cI cB h0 aS aP g1 yl) (cwV 1 hts (lw_V q212 q214 qs5 q13 q215) rfl rfl rfl (by decide +kernel) ⟨Nat.le_of_ble_eq_true rfl, Nat.le_of_ble_eq_true rfl⟩) (cx_ppV (ci := 2) (q0 := 0) rfl rfl hP hK [0, 1] rfl) rfl rfl hl.1 rfl (lv_room (Nat.le_of_ble_eq_true rfl)) dX2_processTableWithSalt_176 ⟨Nat.le_of_ble_eq_true rfl, Nat.le_of_ble_eq_true rfl⟩).run (fun r_1 hr_1 => ?_)
          obtain rfl : r_1 = bf_F g1 yl := hr_1
          refine lv_aload_n hx hb dX2_processTableWithSalt_179 rfl (lv_at hl 0 rfl) ?_
          refine va_get (D := (dC, dI)) (ci := 2) (v := .ref aP) (C := RX2) (T := TX2) (N := 2) hx hb hts in_X2 hown hK hP 0 rfl rfl 1 (by decide) (hts _ q151) (fun _ h9 => h9) rfl dX2_processTableWithSalt_180 ?_
          refine lv_iload hx hb dX2_processTableWithSalt_183 (lv_at hl 7 rfl) ?_
          refine cx_iald hx hb hK hP 2 0 rfl rfl ((2 * j + 1)) (rfl) (by omega) (by decide) dX2_processTableWithSalt_185 ?_
          refine lv_ixor hx hb dX2_processTableWithSalt_186 ?_
          refine lv_ixor hx hb dX2_processTableWithSalt_187 ?_
          refine lv_topi (fun zr ezr => ?_)
          refine lv_istore (lv' := [(8, .int zr), (0, .ref h0), (1, .ref aS), (2, .ref aK), (7, .int yl), (9, .int (nI 1024)), (10, .int (nI (4 * q))), (11, .int (nI (2 * j + 1)))]) hx hb dX2_processTableWithSalt_188 hl (by decide) rfl (fun ls hl => ?_)
          refine lv_iload hx hb dX2_processTableWithSalt_190 (lv_at hl 4 rfl) ?_
          refine lv_aload_n hx hb dX2_processTableWithSalt_192 rfl (lv_at hl 1 rfl) ?_
          refine lv_iload hx hb dX2_processTableWithSalt_193 (lv_at hl 0 rfl) ?_
          refine vp_callSi (va_runV (As := [.int zr]) (rest := [.int yl]) ⟨hx, hb, hml, hown, hts⟩ (met_F l dC dI cI cB h0 aS aP g1 zr) (cwV 1 hts (lw_V q212 q214 qs5 q13 q215) rfl rfl rfl (by decide +kernel) ⟨Nat.le_of_ble_eq_true rfl, Nat.le_of_ble_eq_true rfl⟩) (cx_ppV (ci := 2) (q0 := 0) rfl rfl hP hK [0, 1] rfl) rfl rfl hl.1 rfl (lv_room (Nat.le_of_ble_eq_true rfl)) dX2_processTableWithSalt_195 ⟨Nat.le_of_ble_eq_true rfl, Nat.le_of_ble_eq_true rfl⟩).run (fun r_2 hr_2 => ?_)
          obtain rfl : r_2 = bf_F g1 zr := hr_2
          refine lv_aload_n hx hb dX2_processTableWithSalt_198 rfl (lv_at hl 1 rfl) ?_
          refine va_get (D := (dC, dI)) (ci := 2) (v := .ref aP) (C := RX2) (T := TX2) (N := 2) hx hb hts in_X2 hown hK hP 0 rfl rfl 1 (by decide) (hts _ q151) (fun _ h9 => h9) rfl dX2_processTableWithSalt_199 ?_
          refine lv_iload hx hb dX2_processTableWithSalt_202 (lv_at hl 7 rfl) ?_
          refine lv_iconst (v := 1) hx hb dX2_processTableWithSalt_204 (by decide) ?_
          refine lv_iadd hx hb dX2_processTableWithSalt_205 ?_
          refine cx_top (nI (2 * j + 1 + 1)) (nI_1 (2 * j + 1)) ?_
          refine cx_iald hx hb hK hP 2 0 rfl rfl ((2 * j + 1 + 1)) (rfl) (by omega) (by decide) dX2_processTableWithSalt_206 ?_
          refine lv_ixor hx hb dX2_processTableWithSalt_207 ?_
          refine lv_ixor hx hb dX2_processTableWithSalt_208 ?_
          refine lv_topi (fun zl ezl => ?_)
          refine lv_istore (lv' := [(7, .int zl), (8, .int zr), (0, .ref h0), (1, .ref aS), (2, .ref aK), (9, .int (nI 1024)), (10, .int (nI (4 * q))), (11, .int (nI (2 * j + 1)))]) hx hb dX2_processTableWithSalt_209 hl (by decide) rfl (fun ls hl => ?_)
          refine lv_iinc (v := nI (2 * (j + 1) + 1)) (lv' := [(11, .int (nI (2 * (j + 1) + 1))), (7, .int zl), (8, .int zr), (0, .ref h0), (1, .ref aS), (2, .ref aK), (9, .int (nI 1024)), (10, .int (nI (4 * q)))]) hx hb dX2_processTableWithSalt_211 hl (k := 7) rfl (by rw [show 2 * (j + 1) + 1 = 2 * j + 1 + 2 by omega]; exact nI_add (2 * j + 1) 2) (by decide) rfl (fun ls hl => ?_)
          refine lv_goto (tgt := 164) hx hb dX2_processTableWithSalt_214 (by decide) ?_
          obtain ⟨g1, g2⟩ := bf_two hyl hyr ezr ezl
          exact ih (j + 1) (by omega) zl zr ls g1 g2 kx (lv_sub hl [3, 4, 5, 1, 2, 6, 7, 0] rfl)
      refine inner 8 0 rfl _ _ ls (ev1) (rfl) (fun ul ur ls hul hur hl => ?_) (lv_sub hl [4, 5, 6, 1, 2, 8, 9, 0] rfl)
      refine lv_iload hx hb dX2_processTableWithSalt_217 (lv_at hl 4 rfl) ?_
      refine lv_aload_n hx hb dX2_processTableWithSalt_219 rfl (lv_at hl 0 rfl) ?_
      refine va_get (D := (dC, dI)) (ci := 2) (v := .ref aP) (C := RX2) (T := TX2) (N := 2) hx hb hts in_X2 hown hK hP 0 rfl rfl 1 (by decide) (hts _ q151) (fun _ h9 => h9) rfl dX2_processTableWithSalt_220 ?_
      refine lv_bipush (v := 17) hx hb dX2_processTableWithSalt_223 (by decide) ?_
      refine cx_iald hx hb hK hP 2 0 rfl rfl (17) (rfl) (by decide) (by decide) dX2_processTableWithSalt_225 ?_
      refine lv_ixor hx hb dX2_processTableWithSalt_226 ?_
      refine lv_topi (fun u3 eu3 => ?_)
      refine lv_istore (lv' := [(8, .int u3), (0, .ref h0), (1, .ref aS), (2, .ref aK), (7, .int ul), (9, .int (nI 1024)), (10, .int (nI (4 * q)))]) hx hb dX2_processTableWithSalt_227 hl (by decide) rfl (fun ls hl => ?_)
      refine lv_aload_n hx hb dX2_processTableWithSalt_229 rfl (lv_at hl 2 rfl) ?_
      refine lv_iload hx hb dX2_processTableWithSalt_230 (lv_at hl 6 rfl) ?_
      refine lv_iconst (v := 2) hx hb dX2_processTableWithSalt_232 (by decide) ?_
      refine lv_iadd hx hb dX2_processTableWithSalt_233 ?_
      refine cx_top (nI (2 * (2 * q + 1))) ((nI_add (4 * q) 2).trans (congrArg nI (by omega))) ?_
      refine lv_iload hx hb dX2_processTableWithSalt_234 (lv_at hl 0 rfl) ?_
      refine cx_iast hx hb hK hP hD hS 1 0 rfl rfl ((2 * (2 * q + 1))) (rfl) (by omega) (by decide) dX2_processTableWithSalt_236 (fun H locs hP hD hS => ?_)
      have hP : va_P (dC, dI) vwCl [(h0, .inr (2, [.ref aS, .ref aP])), aI cI aS 1024 (upd g1 (2 * (2 * q + 1)) u3), aI cI aP 18 fP, aI cI aK nK a] H := hP
      have hD : va_D A [(h0, .inr (2, [.ref aS, .ref aP])), aI cI aS 1024 (upd g1 (2 * (2 * q + 1)) u3), aI cI aP 18 fP, aI cI aK nK a] := hD
      refine lv_aload_n hx hb dX2_processTableWithSalt_237 rfl (lv_at hl 2 rfl) ?_
      refine lv_iload hx hb dX2_processTableWithSalt_238 (lv_at hl 6 rfl) ?_
      refine lv_iconst (v := 3) hx hb dX2_processTableWithSalt_240 (by decide) ?_
      refine lv_iadd hx hb dX2_processTableWithSalt_241 ?_
      refine cx_top (nI (2 * (2 * q + 1) + 1)) ((nI_add (4 * q) 3).trans (congrArg nI (by omega))) ?_
      refine lv_iload hx hb dX2_processTableWithSalt_242 (lv_at hl 4 rfl) ?_
      refine cx_iast hx hb hK hP hD hS 1 0 rfl rfl ((2 * (2 * q + 1) + 1)) (rfl) (by omega) (by decide) dX2_processTableWithSalt_244 (fun H locs hP hD hS => ?_)
      have hP : va_P (dC, dI) vwCl [(h0, .inr (2, [.ref aS, .ref aP])), aI cI aS 1024 (upd (upd g1 (2 * (2 * q + 1)) u3) (2 * (2 * q + 1) + 1) ul), aI cI aP 18 fP, aI cI aK nK a] H := hP
      have hD : va_D A [(h0, .inr (2, [.ref aS, .ref aP])), aI cI aS 1024 (upd (upd g1 (2 * (2 * q + 1)) u3) (2 * (2 * q + 1) + 1) ul), aI cI aP 18 fP, aI cI aK nK a] := hD
      obtain ⟨d1, d2, d3⟩ := bf_blkS (w := w) (k := 2 * q + 1) (q := (bf_run w 9 (2 * q + 1) (T, i1, i2))) b1 hx7 hx8 hul hur eu3
      refine lv_aload_n hx hb dX2_processTableWithSalt_245 rfl (lv_at hl 3 rfl) ?_
      refine lv_iconst (v := 0) hx hb dX2_processTableWithSalt_246 (by decide) ?_
      refine cx_iald hx hb hK hP 3 0 rfl rfl (0) (rfl) (by omega) (by omega) dX2_processTableWithSalt_247 ?_
      refine lv_iload hx hb dX2_processTableWithSalt_248 (lv_at hl 0 rfl) ?_
      refine lv_ixor hx hb dX2_processTableWithSalt_250 ?_
      refine lv_topi (fun w5 ew5 => ?_)
      refine lv_istore (lv' := [(5, .int w5), (8, .int u3), (0, .ref h0), (1, .ref aS), (2, .ref aK), (7, .int ul), (9, .int (nI 1024)), (10, .int (nI (4 * q)))]) hx hb dX2_processTableWithSalt_251 hl (by decide) rfl (fun ls hl => ?_)
      refine lv_aload_n hx hb dX2_processTableWithSalt_253 rfl (lv_at hl 4 rfl) ?_
      refine lv_iconst (v := 1) hx hb dX2_processTableWithSalt_254 (by decide) ?_
      refine cx_iald hx hb hK hP 3 0 rfl rfl (1) (rfl) (by omega) (by omega) dX2_processTableWithSalt_255 ?_
      refine lv_iload hx hb dX2_processTableWithSalt_256 (lv_at hl 5 rfl) ?_
      refine lv_ixor hx hb dX2_processTableWithSalt_258 ?_
      refine lv_topi (fun w6 ew6 => ?_)
      refine lv_istore (lv' := [(6, .int w6), (5, .int w5), (8, .int u3), (0, .ref h0), (1, .ref aS), (2, .ref aK), (7, .int ul), (9, .int (nI 1024)), (10, .int (nI (4 * q)))]) hx hb dX2_processTableWithSalt_259 hl (by decide) rfl (fun ls hl => ?_)
      refine lv_iinc (v := nI (4 * (q + 1))) (lv' := [(10, .int (nI (4 * (q + 1)))), (6, .int w6), (5, .int w5), (8, .int u3), (0, .ref h0), (1, .ref aS), (2, .ref aK), (7, .int ul), (9, .int (nI 1024))]) hx hb dX2_processTableWithSalt_261 hl (k := 8) rfl (nI_add (4 * q) 4) (by decide) rfl (fun ls hl => ?_)
      refine lv_goto (tgt := 22) hx hb dX2_processTableWithSalt_264 (by decide) ?_
      have c1 : w (2 * (q + 1) + 9) = (a 0, a 1) := (hw (q + 1)).1
      have a1 : bf_Ag fP (upd (upd g1 (2 * (2 * q + 1)) u3) (2 * (2 * q + 1) + 1) ul) (bf_run w 9 (2 * (q + 1)) (T, i1, i2)).1 := by rw [show 2 * (q + 1) = 2 * q + 1 + 1 by omega]; exact d1
      have a2 : w5 = (bf_run w 9 (2 * (q + 1)) (T, i1, i2)).2.1 ^^^ (w (2 * (q + 1) + 9)).1 := by rw [c1, show 2 * (q + 1) = 2 * q + 1 + 1 by omega, ew5, d2]; exact Int32.xor_comm _ _
      have a3 : w6 = (bf_run w 9 (2 * (q + 1)) (T, i1, i2)).2.2 ^^^ (w (2 * (q + 1) + 9)).2 := by rw [c1, show 2 * (q + 1) = 2 * q + 1 + 1 by omega, ew6, d3]; exact Int32.xor_comm _ _
      exact ih (q + 1) (by omega) _ w5 w6 H locs ls a1 a2 a3 hP hD hS (lv_sub hl [4, 5, 6, 2, 1, 8, 0] rfl)
  have s1 : v5 = i1 ^^^ (w (2 * 0 + 9)).1 := by rw [(hw 0).1, ev5]
  have s2 : v6 = i2 ^^^ (w (2 * 0 + 9)).2 := by rw [(hw 0).1, ev6]
  exact loop 256 0 (by omega) fS v5 v6 _ _ ls hT s1 s2 hP hD hS (lv_sub hl [4, 5, 6, 3, 2, 1, 0] rfl)
end
section
/-! BCrypt: its constructor, initState, encryptMagicString -/
set_option maxHeartbeats 4000000 in
set_option maxRecDepth 100000 in
/-- BCrypt() -/
theorem met_binit (l : Launch) (dC : Nat → ClassId) (dI : Nat → Nat → Nat) (cI cB : ClassId) (h0 : Nat) (sz : Nat) : Met l yX2_init (ws_ yX2_init cX2_init 1 none) ({ frames := 1, cells := 2, slots := 1042, locals := 12 } : Room) (cx_Pre (dC, dI) (tyL cI cB) [.ref h0] [(h0, .inr (2, [.null, .null]))] sz cx_No) (cx_Qv (S := Nat × Nat) (dC, dI) [(h0, .inr (2, [.null, .null]))] sz (fun u => True) (fun u => [oBC h0 u.1 u.2, aI cI u.1 1024 (fun _ => 0), aI cI u.2 18 (fun _ => 0)])) 2 1042 (va_A [(h0, .inr (2, [.null, .null]))] sz) := by
  refine Met.ofW (cc := cX2_init) (maxL := 1) (ret := none) (by decide) rfl ?_
  intro p e s m args below meth c s₁ B hml hv
  obtain ⟨rfl, hsz, hP, hK, hD0, hE⟩ := hv
  have hx := B.exec
  have hb := B.bytes
  have hr := B.returns
  have hts := atoms_spec (ws := (ws_ yX2_init cX2_init 1 none)) B.pre
  have hts : ∀ w ∈ lw_all, w.before _ s = true := fun w h => hts w (List.mem_cons_of_mem _ h)
  have hown : s.vm.findClass RX2 = some m.cls := findClass_of_methodNamed B.named
  have hlocks := B.notSynchronized
  have hin : meth.name = "<init>" := (name_of_methodNamed B.named B.method).1
  subst hsz
  obtain ⟨A, hAe⟩ : ∃ A : Nat → Prop, A = va_A [(h0, .inr (2, [.null, .null]))] s.heap.size := ⟨_, rfl⟩
  have hD : va_D A [(h0, .inr (2, [.null, .null]))] := by rw [hAe]; exact hD0.self
  have hA : ∀ q : Nat, s.heap.size ≤ q → A q := fun q h => by rw [hAe]; exact Or.inr h
  have hS : va_S A s.heap s.heap [] := va_S.rf
  refine cx_Q (fun Q hQe => ?_)
  have hP : va_P (dC, dI) vwCl [(h0, .inr (2, [.null, .null]))] s.heap := hP
  have hl := lv_entry ([.ref h0]) (n := 1) (Nat.le_of_ble_eq_true rfl)
  rw [lg_entry_eq]
  generalize (lg_sl ([.ref h0]) ++ List.replicate (1 - (lg_sl ([.ref h0])).length) Slot.unset).toArray = ls at hl ⊢
  have hl : lv_has ls 1 [(0, .ref h0)] := hl
  refine lv_aload_n hx hb dX2_init_0 rfl (lv_at hl 0 rfl) ?_
  refine W.objInit hx hb hown (hts _ q149) (hts _ q30) (hts _ q31) rfl (by rw [hml]; exact hl.1) rfl dX2_init_1 (Nat.le_of_ble_eq_true rfl) (Nat.le_of_ble_eq_true rfl) ?_
  refine W.eq (g2 := F0 m 4 ls []) rfl ?_
  refine lv_aload_n hx hb dX2_init_4 rfl (lv_at hl 0 rfl) ?_
  refine lv_sipush (v := 1024) hx hb dX2_init_5 (by decide) ?_
  refine cx_newI hx hb (hts _ q157) hK hP hD hS hA (1024) (rfl) (by decide) (by decide) (by decide) dX2_init_8 (fun aS H hP hD hS => ?_)
  have hP : va_P (dC, dI) vwCl [(h0, .inr (2, [.null, .null])), aI cI aS 1024 (fun _ => 0)] H := hP
  have hD : va_D A [(h0, .inr (2, [.null, .null])), aI cI aS 1024 (fun _ => 0)] := hD
  refine va_putF (D := (dC, dI)) (ci := 2) (v := .ref aS) (ty := (.array .int)) (C := RX2) (T := TX2) (N := 2) hx hb hts in_X2 tyX2 tyX2_ok nmX2 hown hK hP hD hS 0 rfl rfl 0 (by decide) (hts _ q150) (fun _ h9 => h9) rfl hin rfl (by decide +kernel) rfl rfl (Nat.le_of_ble_eq_true rfl) dX2_init_10 (fun H locs hP hD hS => ?_)
  have hP : va_P (dC, dI) vwCl [(h0, .inr (2, [.ref aS, .null])), aI cI aS 1024 (fun _ => 0)] H := hP
  have hD : va_D A [(h0, .inr (2, [.ref aS, .null])), aI cI aS 1024 (fun _ => 0)] := hD
  refine lv_aload_n hx hb dX2_init_13 rfl (lv_at hl 0 rfl) ?_
  refine lv_bipush (v := 18) hx hb dX2_init_14 (by decide) ?_
  refine cx_newI hx hb (hts _ q157) hK hP hD hS hA (18) (rfl) (by decide) (by decide) (by decide) dX2_init_16 (fun aP H hP hD hS => ?_)
  have hP : va_P (dC, dI) vwCl [(h0, .inr (2, [.ref aS, .null])), aI cI aS 1024 (fun _ => 0), aI cI aP 18 (fun _ => 0)] H := hP
  have hD : va_D A [(h0, .inr (2, [.ref aS, .null])), aI cI aS 1024 (fun _ => 0), aI cI aP 18 (fun _ => 0)] := hD
  refine va_putF (D := (dC, dI)) (ci := 2) (v := .ref aP) (ty := (.array .int)) (C := RX2) (T := TX2) (N := 2) hx hb hts in_X2 tyX2 tyX2_ok nmX2 hown hK hP hD hS 0 rfl rfl 1 (by decide) (hts _ q151) (fun _ h9 => h9) rfl hin rfl (by decide +kernel) rfl rfl (Nat.le_of_ble_eq_true rfl) dX2_init_18 (fun H locs hP hD hS => ?_)
  have hP : va_P (dC, dI) vwCl [(h0, .inr (2, [.ref aS, .ref aP])), aI cI aS 1024 (fun _ => 0), aI cI aP 18 (fun _ => 0)] H := hP
  have hD : va_D A [(h0, .inr (2, [.ref aS, .ref aP])), aI cI aS 1024 (fun _ => 0), aI cI aP 18 (fun _ => 0)] := hD
  refine W.widen (k := 2) (n := 1042) (by decide) (by decide) ?_
  subst hQe
  subst hAe
  exact W.vret hx hb hr (fun t ht hW => ⟨⟨(aS, aP), rfl, trivial, by rw [ht]; exact hP.sub [0, 1, 2] rfl, hD.sub [0, 1, 2] (by decide) rfl⟩, hS.F ht⟩) hS.2.2 dX2_init_21
set_option maxHeartbeats 4000000 in
set_option maxRecDepth 100000 in
/-- BCrypt.initState -/
theorem met_initS (l : Launch) (dC : Nat → ClassId) (dI : Nat → Nat → Nat) (cI cB : ClassId) (h0 aS aP : Nat) (T M fP fS : Nat → Int32) (sz : Nat) : Met l yX2_initState (ws_ yX2_initState cX2_initState 1 none) ({ frames := 1, cells := 0, slots := 0, locals := 40 } : Room) (cx_Pre (dC, dI) (tyL cI cB) [.ref h0] [(h0, .inr (2, [.ref aS, .ref aP])), aI cI aS 1024 fS, aI cI aP 18 fP] sz (cx_Bc T M (va_A [(h0, .inr (2, [.ref aS, .ref aP])), aI cI aS 1024 fS, aI cI aP 18 fP] sz))) (cx_Qv (S := (Nat → Int32) × (Nat → Int32)) (dC, dI) [(h0, .inr (2, [.ref aS, .ref aP])), aI cI aS 1024 fS, aI cI aP 18 fP] sz (fun u => bf_Ag u.1 u.2 T) (fun u => [oBC h0 aS aP, aI cI aS 1024 u.2, aI cI aP 18 u.1])) 0 0 (va_A [(h0, .inr (2, [.ref aS, .ref aP])), aI cI aS 1024 fS, aI cI aP 18 fP] sz) := by
  refine Met.ofW (cc := cX2_initState) (maxL := 1) (ret := none) (by decide) rfl ?_
  intro p e s m args below meth c s₁ B hml hv
  obtain ⟨rfl, hsz, hP, hK, hD0, hE⟩ := hv
  have hx := B.exec
  have hb := B.bytes
  have hr := B.returns
  have hts := atoms_spec (ws := (ws_ yX2_initState cX2_initState 1 none)) B.pre
  have hts : ∀ w ∈ lw_all, w.before _ s = true := fun w h => hts w (List.mem_cons_of_mem _ h)
  have hown : s.vm.findClass RX2 = some m.cls := findClass_of_methodNamed B.named
  have hlocks := B.notSynchronized
  subst hsz
  obtain ⟨A, hAe⟩ : ∃ A : Nat → Prop, A = va_A [(h0, .inr (2, [.ref aS, .ref aP])), aI cI aS 1024 fS, aI cI aP 18 fP] s.heap.size := ⟨_, rfl⟩
  have hD : va_D A [(h0, .inr (2, [.ref aS, .ref aP])), aI cI aS 1024 fS, aI cI aP 18 fP] := by rw [hAe]; exact hD0.self
  rw [← hAe] at hE
  have hA : ∀ q : Nat, s.heap.size ≤ q → A q := fun q h => by rw [hAe]; exact Or.inr h
  have hS : va_S A s.heap s.heap [] := va_S.rf
  refine cx_Q (fun Q hQe => ?_)
  have hP : va_P (dC, dI) vwCl [(h0, .inr (2, [.ref aS, .ref aP])), aI cI aS 1024 fS, aI cI aP 18 fP] s.heap := hP
  have hl := lv_entry ([.ref h0]) (n := 1) (Nat.le_of_ble_eq_true rfl)
  rw [lg_entry_eq]
  generalize (lg_sl ([.ref h0]) ++ List.replicate (1 - (lg_sl ([.ref h0])).length) Slot.unset).toArray = ls at hl ⊢
  have hl : lv_has ls 1 [(0, .ref h0)] := hl
  obtain ⟨⟨tKP, zKP, xKP, lKP, nKP⟩, ⟨tKS0, zKS0, xKS0, lKS0, nKS0⟩, ⟨tKS1, zKS1, xKS1, lKS1, nKS1⟩, ⟨tKS2, zKS2, xKS2, lKS2, nKS2⟩, ⟨tKS3, zKS3, xKS3, lKS3, nKS3⟩, ⟨tMAGIC_STRING, zMAGIC_STRING, xMAGIC_STRING, lMAGIC_STRING, nMAGIC_STRING⟩⟩ := id hE
  refine va_gets hx hb zKS0 hS hown (hts _ q187) (fun _ h => h) dX2_initState_0 ?_
  refine lv_iconst (v := 0) hx hb dX2_initState_3 (by decide) ?_
  refine lv_aload_n hx hb dX2_initState_4 rfl (lv_at hl 0 rfl) ?_
  refine va_get (D := (dC, dI)) (ci := 2) (v := .ref aS) (C := RX2) (T := TX2) (N := 2) hx hb hts in_X2 hown hK hP 0 rfl rfl 0 (by decide) (hts _ q150) (fun _ h9 => h9) rfl dX2_initState_5 ?_
  refine lv_iconst (v := 0) hx hb dX2_initState_8 (by decide) ?_
  refine lv_sipush (v := 256) hx hb dX2_initState_9 (by decide) ?_
  refine va_copyx hx hb (by rw [hml]; exact hl.1.symm) hown (hts _ q189) (hts _ q143) (hts _ q142) (hts _ q19) hK hP hD hS xKS0 lKS0 nKS0 1 0 rfl rfl (by decide) (by decide) (by decide) (by decide) (by decide) (Nat.le_of_ble_eq_true rfl) (by decide +kernel) dX2_initState_12 (fun H locs hP hD hS => ?_)
  have hP : va_P (dC, dI) vwCl [(h0, .inr (2, [.ref aS, .ref aP])), aI cI aS 1024 (va_cpy (fun j => T (18 + j)) fS 0 0 256), aI cI aP 18 fP] H := hP
  have hD : va_D A [(h0, .inr (2, [.ref aS, .ref aP])), aI cI aS 1024 (va_cpy (fun j => T (18 + j)) fS 0 0 256), aI cI aP 18 fP] := hD
  refine va_gets hx hb zKS1 hS hown (hts _ q190) (fun _ h => h) dX2_initState_15 ?_
  refine lv_iconst (v := 0) hx hb dX2_initState_18 (by decide) ?_
  refine lv_aload_n hx hb dX2_initState_19 rfl (lv_at hl 0 rfl) ?_
  refine va_get (D := (dC, dI)) (ci := 2) (v := .ref aS) (C := RX2) (T := TX2) (N := 2) hx hb hts in_X2 hown hK hP 0 rfl rfl 0 (by decide) (hts _ q150) (fun _ h9 => h9) rfl dX2_initState_20 ?_
  refine lv_sipush (v := 256) hx hb dX2_initState_23 (by decide) ?_
  refine lv_sipush (v := 256) hx hb dX2_initState_26 (by decide) ?_
  refine va_copyx hx hb (by rw [hml]; exact hl.1.symm) hown (hts _ q189) (hts _ q143) (hts _ q142) (hts _ q19) hK hP hD hS xKS1 lKS1 nKS1 1 0 rfl rfl (by decide) (by decide) (by decide) (by decide) (by decide) (Nat.le_of_ble_eq_true rfl) (by decide +kernel) dX2_initState_29 (fun H locs hP hD hS => ?_)
  have hP : va_P (dC, dI) vwCl [(h0, .inr (2, [.ref aS, .ref aP])), aI cI aS 1024 (va_cpy (fun j => T (274 + j)) (va_cpy (fun j => T (18 + j)) fS 0 0 256) 0 256 256), aI cI aP 18 fP] H := hP
  have hD : va_D A [(h0, .inr (2, [.ref aS, .ref aP])), aI cI aS 1024 (va_cpy (fun j => T (274 + j)) (va_cpy (fun j => T (18 + j)) fS 0 0 256) 0 256 256), aI cI aP 18 fP] := hD
  refine va_gets hx hb zKS2 hS hown (hts _ q192) (fun _ h => h) dX2_initState_32 ?_
  refine lv_iconst (v := 0) hx hb dX2_initState_35 (by decide) ?_
  refine lv_aload_n hx hb dX2_initState_36 rfl (lv_at hl 0 rfl) ?_
  refine va_get (D := (dC, dI)) (ci := 2) (v := .ref aS) (C := RX2) (T := TX2) (N := 2) hx hb hts in_X2 hown hK hP 0 rfl rfl 0 (by decide) (hts _ q150) (fun _ h9 => h9) rfl dX2_initState_37 ?_
  refine lv_sipush (v := 512) hx hb dX2_initState_40 (by decide) ?_
  refine lv_sipush (v := 256) hx hb dX2_initState_43 (by decide) ?_
  refine va_copyx hx hb (by rw [hml]; exact hl.1.symm) hown (hts _ q189) (hts _ q143) (hts _ q142) (hts _ q19) hK hP hD hS xKS2 lKS2 nKS2 1 0 rfl rfl (by decide) (by decide) (by decide) (by decide) (by decide) (Nat.le_of_ble_eq_true rfl) (by decide +kernel) dX2_initState_46 (fun H locs hP hD hS => ?_)
  have hP : va_P (dC, dI) vwCl [(h0, .inr (2, [.ref aS, .ref aP])), aI cI aS 1024 (va_cpy (fun j => T (530 + j)) (va_cpy (fun j => T (274 + j)) (va_cpy (fun j => T (18 + j)) fS 0 0 256) 0 256 256) 0 512 256), aI cI aP 18 fP] H := hP
  have hD : va_D A [(h0, .inr (2, [.ref aS, .ref aP])), aI cI aS 1024 (va_cpy (fun j => T (530 + j)) (va_cpy (fun j => T (274 + j)) (va_cpy (fun j => T (18 + j)) fS 0 0 256) 0 256 256) 0 512 256), aI cI aP 18 fP] := hD
  refine va_gets hx hb zKS3 hS hown (hts _ q194) (fun _ h => h) dX2_initState_49 ?_
  refine lv_iconst (v := 0) hx hb dX2_initState_52 (by decide) ?_
  refine lv_aload_n hx hb dX2_initState_53 rfl (lv_at hl 0 rfl) ?_
  refine va_get (D := (dC, dI)) (ci := 2) (v := .ref aS) (C := RX2) (T := TX2) (N := 2) hx hb hts in_X2 hown hK hP 0 rfl rfl 0 (by decide) (hts _ q150) (fun _ h9 => h9) rfl dX2_initState_54 ?_
  refine lv_sipush (v := 768) hx hb dX2_initState_57 (by decide) ?_
  refine lv_sipush (v := 256) hx hb dX2_initState_60 (by decide) ?_
  refine va_copyx hx hb (by rw [hml]; exact hl.1.symm) hown (hts _ q189) (hts _ q143) (hts _ q142) (hts _ q19) hK hP hD hS xKS3 lKS3 nKS3 1 0 rfl rfl (by decide) (by decide) (by decide) (by decide) (by decide) (Nat.le_of_ble_eq_true rfl) (by decide +kernel) dX2_initState_63 (fun H locs hP hD hS => ?_)
  have hP : va_P (dC, dI) vwCl [(h0, .inr (2, [.ref aS, .ref aP])), aI cI aS 1024 (va_cpy (fun j => T (786 + j)) (va_cpy (fun j => T (530 + j)) (va_cpy (fun j => T (274 + j)) (va_cpy (fun j => T (18 + j)) fS 0 0 256) 0 256 256) 0 512 256) 0 768 256), aI cI aP 18 fP] H := hP
  have hD : va_D A [(h0, .inr (2, [.ref aS, .ref aP])), aI cI aS 1024 (va_cpy (fun j => T (786 + j)) (va_cpy (fun j => T (530 + j)) (va_cpy (fun j => T (274 + j)) (va_cpy (fun j => T (18 + j)) fS 0 0 256) 0 256 256) 0 512 256) 0 768 256), aI cI aP 18 fP] := hD
  refine va_gets hx hb zKP hS hown (hts _ q196) (fun _ h => h) dX2_initState_66 ?_
  refine lv_iconst (v := 0) hx hb dX2_initState_69 (by decide) ?_
  refine lv_aload_n hx hb dX2_initState_70 rfl (lv_at hl 0 rfl) ?_
  refine va_get (D := (dC, dI)) (ci := 2) (v := .ref aP) (C := RX2) (T := TX2) (N := 2) hx hb hts in_X2 hown hK hP 0 rfl rfl 1 (by decide) (hts _ q151) (fun _ h9 => h9) rfl dX2_initState_71 ?_
  refine lv_iconst (v := 0) hx hb dX2_initState_74 (by decide) ?_
  refine lv_bipush (v := 18) hx hb dX2_initState_75 (by decide) ?_
  refine va_copyx hx hb (by rw [hml]; exact hl.1.symm) hown (hts _ q189) (hts _ q143) (hts _ q142) (hts _ q19) hK hP hD hS xKP lKP nKP 2 0 rfl rfl (by decide) (by decide) (by decide) (by decide) (by decide) (Nat.le_of_ble_eq_true rfl) (by decide +kernel) dX2_initState_77 (fun H locs hP hD hS => ?_)
  have hP : va_P (dC, dI) vwCl [(h0, .inr (2, [.ref aS, .ref aP])), aI cI aS 1024 (va_cpy (fun j => T (786 + j)) (va_cpy (fun j => T (530 + j)) (va_cpy (fun j => T (274 + j)) (va_cpy (fun j => T (18 + j)) fS 0 0 256) 0 256 256) 0 512 256) 0 768 256), aI cI aP 18 (va_cpy T fP 0 0 18)] H := hP
  have hD : va_D A [(h0, .inr (2, [.ref aS, .ref aP])), aI cI aS 1024 (va_cpy (fun j => T (786 + j)) (va_cpy (fun j => T (530 + j)) (va_cpy (fun j => T (274 + j)) (va_cpy (fun j => T (18 + j)) fS 0 0 256) 0 256 256) 0 512 256) 0 768 256), aI cI aP 18 (va_cpy T fP 0 0 18)] := hD
  subst hQe
  subst hAe
  exact W.vret hx hb hr (fun t ht hW => ⟨⟨(_, _), rfl, bf_init T fP fS, by rw [ht]; exact hP.sub [0, 1, 2] rfl, hD.sub [0, 1, 2] (by decide) rfl⟩, hS.F ht⟩) hS.2.2 dX2_initState_80
set_option maxHeartbeats 4000000 in
set_option maxRecDepth 100000 in
/-- BCrypt.encryptMagicString -/
theorem met_magic (l : Launch) (dC : Nat → ClassId) (dI : Nat → Nat → Nat) (cI cB : ClassId) (h0 aS aP : Nat) (T0 T M fP fS : Nat → Int32) (hT : bf_Ag fP fS T0) (sz : Nat) : Met l yX2_encryptMagicString (ws_ yX2_encryptMagicString cX2_encryptMagicString 7 (some (.array .byte))) ({ frames := 2, cells := 2, slots := 30, locals := 45 } : Room) (cx_Pre (dC, dI) (tyL cI cB) [.ref h0] [(h0, .inr (2, [.ref aS, .ref aP])), aI cI aS 1024 fS, aI cI aP 18 fP] sz (cx_Bc T M (va_A [(h0, .inr (2, [.ref aS, .ref aP])), aI cI aS 1024 fS, aI cI aP 18 fP] sz))) (cx_Qr (S := Nat → Int32) (dC, dI) [(h0, .inr (2, [.ref aS, .ref aP])), aI cI aS 1024 fS, aI cI aP 18 fP] sz (fun u => ∀ j, j < 24 → u j &&& 255 = bf_by (bf_out T0 M (j / 4)) (j % 4)) (fun u ra => [aI cB ra 24 u])) 2 30 (va_A [(h0, .inr (2, [.ref aS, .ref aP])), aI cI aS 1024 fS, aI cI aP 18 fP] sz) := by
  refine Met.ofW (cc := cX2_encryptMagicString) (maxL := 7) (ret := (some (.array .byte))) (by decide) rfl ?_
  intro p e s m args below meth c s₁ B hml hv
  obtain ⟨rfl, hsz, hP, hK, hD0, hE⟩ := hv
  have hx := B.exec
  have hb := B.bytes
  have hr := B.returns
  have hts := atoms_spec (ws := (ws_ yX2_encryptMagicString cX2_encryptMagicString 7 (some (.array .byte)))) B.pre
  have hts : ∀ w ∈ lw_all, w.before _ s = true := fun w h => hts w (List.mem_cons_of_mem _ h)
  have hown : s.vm.findClass RX2 = some m.cls := findClass_of_methodNamed B.named
  have hlocks := B.notSynchronized
  subst hsz
  obtain ⟨A, hAe⟩ : ∃ A : Nat → Prop, A = va_A [(h0, .inr (2, [.ref aS, .ref aP])), aI cI aS 1024 fS, aI cI aP 18 fP] s.heap.size := ⟨_, rfl⟩
  have hD : va_D A [(h0, .inr (2, [.ref aS, .ref aP])), aI cI aS 1024 fS, aI cI aP 18 fP] := by rw [hAe]; exact hD0.self
  rw [← hAe] at hE
  have hA : ∀ q : Nat, s.heap.size ≤ q → A q := fun q h => by rw [hAe]; exact Or.inr h
  have hS : va_S A s.heap s.heap [] := va_S.rf
  refine cx_Q (fun Q hQe => ?_)
  have hP : va_P (dC, dI) vwCl [(h0, .inr (2, [.ref aS, .ref aP])), aI cI aS 1024 fS, aI cI aP 18 fP] s.heap := hP
  have hl := lv_entry ([.ref h0]) (n := 7) (Nat.le_of_ble_eq_true rfl)
  rw [lg_entry_eq]
  generalize (lg_sl ([.ref h0]) ++ List.replicate (7 - (lg_sl ([.ref h0])).length) Slot.unset).toArray = ls at hl ⊢
  have hl : lv_has ls 7 [(0, .ref h0)] := hl
  obtain ⟨⟨tKP, zKP, xKP, lKP, nKP⟩, ⟨tKS0, zKS0, xKS0, lKS0, nKS0⟩, ⟨tKS1, zKS1, xKS1, lKS1, nKS1⟩, ⟨tKS2, zKS2, xKS2, lKS2, nKS2⟩, ⟨tKS3, zKS3, xKS3, lKS3, nKS3⟩, ⟨tMAGIC_STRING, zMAGIC_STRING, xMAGIC_STRING, lMAGIC_STRING, nMAGIC_STRING⟩⟩ := id hE
  refine lv_bipush (v := 6) hx hb dX2_encryptMagicString_0 (by decide) ?_
  refine cx_newI hx hb (hts _ q157) hK hP hD hS hA (6) (rfl) (by decide) (by decide) (by decide) dX2_encryptMagicString_2 (fun aT H hP hD hS => ?_)
  have hP : va_P (dC, dI) vwCl [(h0, .inr (2, [.ref aS, .ref aP])), aI cI aS 1024 fS, aI cI aP 18 fP, aI cI aT 6 (fun _ => 0)] H := hP
  have hD : va_D A [(h0, .inr (2, [.ref aS, .ref aP])), aI cI aS 1024 fS, aI cI aP 18 fP, aI cI aT 6 (fun _ => 0)] := hD
  refine lv_dup hx hb dX2_encryptMagicString_4 rfl ?_
  refine lv_iconst (v := 0) hx hb dX2_encryptMagicString_5 (by decide) ?_
  refine va_gets hx hb zMAGIC_STRING hS hown (hts _ q230) (fun _ h => h) dX2_encryptMagicString_6 ?_
  refine lv_iconst (v := 0) hx hb dX2_encryptMagicString_9 (by decide) ?_
  refine cx_sld hx hb xMAGIC_STRING lMAGIC_STRING nMAGIC_STRING hS (0) (rfl) (by decide) (by decide) dX2_encryptMagicString_10 ?_
  refine cx_iast hx hb hK hP hD hS 3 0 rfl rfl (0) (rfl) (by decide) (by decide) dX2_encryptMagicString_11 (fun H locs hP hD hS => ?_)
  have hP : va_P (dC, dI) vwCl [(h0, .inr (2, [.ref aS, .ref aP])), aI cI aS 1024 fS, aI cI aP 18 fP, aI cI aT 6 (upd (fun _ => 0) 0 (M 0))] H := hP
  have hD : va_D A [(h0, .inr (2, [.ref aS, .ref aP])), aI cI aS 1024 fS, aI cI aP 18 fP, aI cI aT 6 (upd (fun _ => 0) 0 (M 0))] := hD
  refine lv_dup hx hb dX2_encryptMagicString_12 rfl ?_
  refine lv_iconst (v := 1) hx hb dX2_encryptMagicString_13 (by decide) ?_
  refine va_gets hx hb zMAGIC_STRING hS hown (hts _ q230) (fun _ h => h) dX2_encryptMagicString_14 ?_
  refine lv_iconst (v := 1) hx hb dX2_encryptMagicString_17 (by decide) ?_
  refine cx_sld hx hb xMAGIC_STRING lMAGIC_STRING nMAGIC_STRING hS (1) (rfl) (by decide) (by decide) dX2_encryptMagicString_18 ?_
  refine cx_iast hx hb hK hP hD hS 3 0 rfl rfl (1) (rfl) (by decide) (by decide) dX2_encryptMagicString_19 (fun H locs hP hD hS => ?_)
  have hP : va_P (dC, dI) vwCl [(h0, .inr (2, [.ref aS, .ref aP])), aI cI aS 1024 fS, aI cI aP 18 fP, aI cI aT 6 (upd (upd (fun _ => 0) 0 (M 0)) 1 (M 1))] H := hP
  have hD : va_D A [(h0, .inr (2, [.ref aS, .ref aP])), aI cI aS 1024 fS, aI cI aP 18 fP, aI cI aT 6 (upd (upd (fun _ => 0) 0 (M 0)) 1 (M 1))] := hD
  refine lv_dup hx hb dX2_encryptMagicString_20 rfl ?_
  refine lv_iconst (v := 2) hx hb dX2_encryptMagicString_21 (by decide) ?_
  refine va_gets hx hb zMAGIC_STRING hS hown (hts _ q230) (fun _ h => h) dX2_encryptMagicString_22 ?_
  refine lv_iconst (v := 2) hx hb dX2_encryptMagicString_25 (by decide) ?_
  refine cx_sld hx hb xMAGIC_STRING lMAGIC_STRING nMAGIC_STRING hS (2) (rfl) (by decide) (by decide) dX2_encryptMagicString_26 ?_
  refine cx_iast hx hb hK hP hD hS 3 0 rfl rfl (2) (rfl) (by decide) (by decide) dX2_encryptMagicString_27 (fun H locs hP hD hS => ?_)
  have hP : va_P (dC, dI) vwCl [(h0, .inr (2, [.ref aS, .ref aP])), aI cI aS 1024 fS, aI cI aP 18 fP, aI cI aT 6 (upd (upd (upd (fun _ => 0) 0 (M 0)) 1 (M 1)) 2 (M 2))] H := hP
  have hD : va_D A [(h0, .inr (2, [.ref aS, .ref aP])), aI cI aS 1024 fS, aI cI aP 18 fP, aI cI aT 6 (upd (upd (upd (fun _ => 0) 0 (M 0)) 1 (M 1)) 2 (M 2))] := hD
  refine lv_dup hx hb dX2_encryptMagicString_28 rfl ?_
  refine lv_iconst (v := 3) hx hb dX2_encryptMagicString_29 (by decide) ?_
  refine va_gets hx hb zMAGIC_STRING hS hown (hts _ q230) (fun _ h => h) dX2_encryptMagicString_30 ?_
  refine lv_iconst (v := 3) hx hb dX2_encryptMagicString_33 (by decide) ?_
  refine cx_sld hx hb xMAGIC_STRING lMAGIC_STRING nMAGIC_STRING hS (3) (rfl) (by decide) (by decide) dX2_encryptMagicString_34 ?_
  refine cx_iast hx hb hK hP hD hS 3 0 rfl rfl (3) (rfl) (by decide) (by decide) dX2_encryptMagicString_35 (fun H locs hP hD hS => ?_)
  have hP : va_P (dC, dI) vwCl [(h0, .inr (2, [.ref aS, .ref aP])), aI cI aS 1024 fS, aI cI aP 18 fP, aI cI aT 6 (upd (upd (upd (upd (fun _ => 0) 0 (M 0)) 1 (M 1)) 2 (M 2)) 3 (M 3))] H := hP
  have hD : va_D A [(h0, .inr (2, [.ref aS, .ref aP])), aI cI aS 1024 fS, aI cI aP 18 fP, aI cI aT 6 (upd (upd (upd (upd (fun _ => 0) 0 (M 0)) 1 (M 1)) 2 (M 2)) 3 (M 3))] := hD
  refine lv_dup hx hb dX2_encryptMagicString_36 rfl ?_
  refine lv_iconst (v := 4) hx hb dX2_encryptMagicString_37 (by decide) ?_
  refine va_gets hx hb zMAGIC_STRING hS hown (hts _ q230) (fun _ h => h) dX2_encryptMagicString_38 ?_
  refine lv_iconst (v := 4) hx hb dX2_encryptMagicString_41 (by decide) ?_
  refine cx_sld hx hb xMAGIC_STRING lMAGIC_STRING nMAGIC_STRING hS (4) (rfl) (by decide) (by decide) dX2_encryptMagicString_42 ?_
  refine cx_iast hx hb hK hP hD hS 3 0 rfl rfl (4) (rfl) (by decide) (by decide) dX2_encryptMagicString_43 (fun H locs hP hD hS => ?_)
  have hP : va_P (dC, dI) vwCl [(h0, .inr (2, [.ref aS, .ref aP])), aI cI aS 1024 fS, aI cI aP 18 fP, aI cI aT 6 (upd (upd (upd (upd (upd (fun _ => 0) 0 (M 0)) 1 (M 1)) 2 (M 2)) 3 (M 3)) 4 (M 4))] H := hP
  have hD : va_D A [(h0, .inr (2, [.ref aS, .ref aP])), aI cI aS 1024 fS, aI cI aP 18 fP, aI cI aT 6 (upd (upd (upd (upd (upd (fun _ => 0) 0 (M 0)) 1 (M 1)) 2 (M 2)) 3 (M 3)) 4 (M 4))] := hD
  refine lv_dup hx hb dX2_encryptMagicString_44 rfl ?_
  refine lv_iconst (v := 5) hx hb dX2_encryptMagicString_45 (by decide) ?_
  refine va_gets hx hb zMAGIC_STRING hS hown (hts _ q230) (fun _ h => h) dX2_encryptMagicString_46 ?_
  refine lv_iconst (v := 5) hx hb dX2_encryptMagicString_49 (by decide) ?_
  refine cx_sld hx hb xMAGIC_STRING lMAGIC_STRING nMAGIC_STRING hS (5) (rfl) (by decide) (by decide) dX2_encryptMagicString_50 ?_
  refine cx_iast hx hb hK hP hD hS 3 0 rfl rfl (5) (rfl) (by decide) (by decide) dX2_encryptMagicString_51 (fun H locs hP hD hS => ?_)
  have hP : va_P (dC, dI) vwCl [(h0, .inr (2, [.ref aS, .ref aP])), aI cI aS 1024 fS, aI cI aP 18 fP, aI cI aT 6 (upd (upd (upd (upd (upd (upd (fun _ => 0) 0 (M 0)) 1 (M 1)) 2 (M 2)) 3 (M 3)) 4 (M 4)) 5 (M 5))] H := hP
  have hD : va_D A [(h0, .inr (2, [.ref aS, .ref aP])), aI cI aS 1024 fS, aI cI aP 18 fP, aI cI aT 6 (upd (upd (upd (upd (upd (upd (fun _ => 0) 0 (M 0)) 1 (M 1)) 2 (M 2)) 3 (M 3)) 4 (M 4)) 5 (M 5))] := hD
  refine lv_astore_n (lv' := [(1, .ref aT), (0, .ref h0)]) hx hb dX2_encryptMagicString_52 rfl hl (by decide) rfl (fun ls hl => ?_)
  refine lv_iconst (v := nI 0) hx hb dX2_encryptMagicString_53 (by decide) ?_
  refine lv_istore_n (lv' := [(2, .int (nI 0)), (1, .ref aT), (0, .ref h0)]) hx hb dX2_encryptMagicString_54 rfl hl (by decide) rfl (fun ls hl => ?_)
  have ht0 : bf_Tx T0 M 0 0 (upd (upd (upd (upd (upd (upd (fun _ => 0) 0 (M 0)) 1 (M 1)) 2 (M 2)) 3 (M 3)) 4 (M 4)) 5 (M 5)) := bf_Tx_start (fun m hm => by rcases (show m = 0 ∨ m = 1 ∨ m = 2 ∨ m = 3 ∨ m = 4 ∨ m = 5 by omega) with rfl | rfl | rfl | rfl | rfl | rfl <;> rfl)
  refine W.widen (k := 1) (n := 6) (by decide) (by decide) ?_
  have loop : ∀ (k i : Nat), i + k = 64 → ∀ (tf : Nat → Int32) (H : Heap) (locs : List Loc) (ls : Array Slot), bf_Tx T0 M i 0 tf → va_P (dC, dI) vwCl [(h0, .inr (2, [.ref aS, .ref aP])), aI cI aS 1024 fS, aI cI aP 18 fP, aI cI aT 6 tf] H → va_D A [(h0, .inr (2, [.ref aS, .ref aP])), aI cI aS 1024 fS, aI cI aP 18 fP, aI cI aT 6 tf] → va_S A s.heap H locs → lv_has ls 7 [(0, .ref h0), (1, .ref aT), (2, .int (nI i))] → W p l e (headSpec (ws_ yX2_encryptMagicString cX2_encryptMagicString 7 (some (.array .byte))) ({ frames := 2, cells := 2, slots := 30, locals := 45 } : Room)).room s m ([.ref h0] : List Value).toArray below meth c H locs 1 6 Q (F0 m 55 ls []) := by
    intro k
    induction k with
    | zero =>
      intro i hi tf H locs ls htx hP hD hS hl
      refine lv_iload_n hx hb dX2_encryptMagicString_55 rfl (lv_at hl 2 rfl) ?_
      refine lv_bipush (v := nI 64) hx hb dX2_encryptMagicString_56 (by decide) ?_
      refine lv_icmp_ge (tgt := 184) hx hb dX2_encryptMagicString_58 (by decide) (fun _ => ?_) (fun c9 => absurd (nI_le (by omega) (by omega)) c9)
      refine lv_bipush (v := 24) hx hb dX2_encryptMagicString_184 (by decide) ?_
      refine cx_newB hx hb (hts _ q45) hK hP hD hS hA (24) (rfl) (by decide) (by decide) (by decide) dX2_encryptMagicString_186 (fun aR H hP hD hS => ?_)
      have hP : va_P (dC, dI) vwCl [(h0, .inr (2, [.ref aS, .ref aP])), aI cI aS 1024 fS, aI cI aP 18 fP, aI cI aT 6 tf, aI cB aR 24 (fun _ => 0)] H := hP
      have hD : va_D A [(h0, .inr (2, [.ref aS, .ref aP])), aI cI aS 1024 fS, aI cI aP 18 fP, aI cI aT 6 tf, aI cB aR 24 (fun _ => 0)] := hD
      refine lv_astore_n (lv' := [(2, .ref aR), (0, .ref h0), (1, .ref aT)]) hx hb dX2_encryptMagicString_188 rfl hl (by decide) rfl (fun ls hl => ?_)
      refine lv_aload_n hx hb dX2_encryptMagicString_189 rfl (lv_at hl 2 rfl) ?_
      refine lv_aload_n hx hb dX2_encryptMagicString_190 rfl (lv_at hl 0 rfl) ?_
      refine lv_iconst (v := nI 0) hx hb dX2_encryptMagicString_191 (by decide) ?_
      refine cx_callv (wr := [(h0, .inr (2, [.ref aS, .ref aP])), aI cI aS 1024 fS, aI cI aP 18 fP]) (va_runS (As := [.ref aT, .ref aR, .int (nI 0)]) (rest := []) ⟨hx, hb, hml, hown, hts⟩ (met_i2b6 l dC dI cI cB aT aR tf (fun _ => 0) H.size) (va_cwS 3 hts (lw_S q232 q233 q22 q234) rfl rfl rfl (by decide +kernel) ⟨Nat.le_of_ble_eq_true rfl, Nat.le_of_ble_eq_true rfl⟩) (cx_preS hP hD hK [3, 4] rfl (by decide) rfl (cx_No_b) (fun _ _ _ => trivial)) rfl rfl hl.1 rfl (lv_room (Nat.le_of_ble_eq_true rfl)) dX2_encryptMagicString_192 ⟨Nat.le_of_ble_eq_true rfl, Nat.le_of_ble_eq_true rfl⟩) hP hD hS hA [3, 4] [0, 1, 2] rfl rfl (by decide) (by decide) (fun u H locs hu hP hD hS => ?_)
      have hP : va_P (dC, dI) vwCl [(h0, .inr (2, [.ref aS, .ref aP])), aI cI aS 1024 fS, aI cI aP 18 fP, aI cI aT 6 tf, aI cB aR 24 u] H := hP
      have hD : va_D A [(h0, .inr (2, [.ref aS, .ref aP])), aI cI aS 1024 fS, aI cI aP 18 fP, aI cI aT 6 tf, aI cB aR 24 u] := hD
      refine lv_aload_n hx hb dX2_encryptMagicString_195 rfl (lv_at hl 2 rfl) ?_
      refine lv_iconst (v := 0) hx hb dX2_encryptMagicString_196 (by decide) ?_
      refine cx_callv (wr := [(h0, .inr (2, [.ref aS, .ref aP])), aI cI aS 1024 fS, aI cI aP 18 fP, aI cB aR 24 u]) (va_runS (As := [.ref aT, .int 0]) (rest := []) ⟨hx, hb, hml, hown, hts⟩ (met_fill l dC dI cI cB aT 6 0 tf (by decide) H.size) (va_cwS 2 hts (lw_S q216 q217 q18 q218) rfl rfl rfl (by decide +kernel) ⟨Nat.le_of_ble_eq_true rfl, Nat.le_of_ble_eq_true rfl⟩) (cx_preS hP hD hK [3] rfl (by decide) rfl (cx_No_b) (fun _ _ _ => trivial)) rfl rfl hl.1 rfl (lv_room (Nat.le_of_ble_eq_true rfl)) dX2_encryptMagicString_197 ⟨Nat.le_of_ble_eq_true rfl, Nat.le_of_ble_eq_true rfl⟩) hP hD hS hA [3] [0, 1, 2, 4] rfl rfl (by decide) (by decide) (fun u1 H locs _ hP hD hS => ?_)
      have hP : va_P (dC, dI) vwCl [(h0, .inr (2, [.ref aS, .ref aP])), aI cI aS 1024 fS, aI cI aP 18 fP, aI cB aR 24 u, aI cI aT 6 u1] H := hP
      have hD : va_D A [(h0, .inr (2, [.ref aS, .ref aP])), aI cI aS 1024 fS, aI cI aP 18 fP, aI cB aR 24 u, aI cI aT 6 u1] := hD
      refine lv_aload_n hx hb dX2_encryptMagicString_200 rfl (lv_at hl 1 rfl) ?_
      refine va_get (D := (dC, dI)) (ci := 2) (v := .ref aP) (C := RX2) (T := TX2) (N := 2) hx hb hts in_X2 hown hK hP 0 rfl rfl 1 (by decide) (hts _ q151) (fun _ h9 => h9) rfl dX2_encryptMagicString_201 ?_
      refine lv_iconst (v := 0) hx hb dX2_encryptMagicString_204 (by decide) ?_
      refine cx_callv (wr := [(h0, .inr (2, [.ref aS, .ref aP])), aI cI aS 1024 fS, aI cB aR 24 u, aI cI aT 6 u1]) (va_runS (As := [.ref aP, .int 0]) (rest := []) ⟨hx, hb, hml, hown, hts⟩ (met_fill l dC dI cI cB aP 18 0 fP (by decide) H.size) (va_cwS 2 hts (lw_S q216 q217 q18 q218) rfl rfl rfl (by decide +kernel) ⟨Nat.le_of_ble_eq_true rfl, Nat.le_of_ble_eq_true rfl⟩) (cx_preS hP hD hK [2] rfl (by decide) rfl (cx_No_b) (fun _ _ _ => trivial)) rfl rfl hl.1 rfl (lv_room (Nat.le_of_ble_eq_true rfl)) dX2_encryptMagicString_205 ⟨Nat.le_of_ble_eq_true rfl, Nat.le_of_ble_eq_true rfl⟩) hP hD hS hA [2] [0, 1, 3, 4] rfl rfl (by decide) (by decide) (fun u2 H locs _ hP hD hS => ?_)
      have hP : va_P (dC, dI) vwCl [(h0, .inr (2, [.ref aS, .ref aP])), aI cI aS 1024 fS, aI cB aR 24 u, aI cI aT 6 u1, aI cI aP 18 u2] H := hP
      have hD : va_D A [(h0, .inr (2, [.ref aS, .ref aP])), aI cI aS 1024 fS, aI cB aR 24 u, aI cI aT 6 u1, aI cI aP 18 u2] := hD
      refine lv_aload_n hx hb dX2_encryptMagicString_208 rfl (lv_at hl 1 rfl) ?_
      refine va_get (D := (dC, dI)) (ci := 2) (v := .ref aS) (C := RX2) (T := TX2) (N := 2) hx hb hts in_X2 hown hK hP 0 rfl rfl 0 (by decide) (hts _ q150) (fun _ h9 => h9) rfl dX2_encryptMagicString_209 ?_
      refine lv_iconst (v := 0) hx hb dX2_encryptMagicString_212 (by decide) ?_
      refine cx_callv (wr := [(h0, .inr (2, [.ref aS, .ref aP])), aI cB aR 24 u, aI cI aT 6 u1, aI cI aP 18 u2]) (va_runS (As := [.ref aS, .int 0]) (rest := []) ⟨hx, hb, hml, hown, hts⟩ (met_fill l dC dI cI cB aS 1024 0 fS (by decide) H.size) (va_cwS 2 hts (lw_S q216 q217 q18 q218) rfl rfl rfl (by decide +kernel) ⟨Nat.le_of_ble_eq_true rfl, Nat.le_of_ble_eq_true rfl⟩) (cx_preS hP hD hK [1] rfl (by decide) rfl (cx_No_b) (fun _ _ _ => trivial)) rfl rfl hl.1 rfl (lv_room (Nat.le_of_ble_eq_true rfl)) dX2_encryptMagicString_213 ⟨Nat.le_of_ble_eq_true rfl, Nat.le_of_ble_eq_true rfl⟩) hP hD hS hA [1] [0, 2, 3, 4] rfl rfl (by decide) (by decide) (fun u3 H locs _ hP hD hS => ?_)
      have hP : va_P (dC, dI) vwCl [(h0, .inr (2, [.ref aS, .ref aP])), aI cB aR 24 u, aI cI aT 6 u1, aI cI aP 18 u2, aI cI aS 1024 u3] H := hP
      have hD : va_D A [(h0, .inr (2, [.ref aS, .ref aP])), aI cB aR 24 u, aI cI aT 6 u1, aI cI aP 18 u2, aI cI aS 1024 u3] := hD
      refine lv_aload_n hx hb dX2_encryptMagicString_216 rfl (lv_at hl 0 rfl) ?_
      refine W.widen (k := 2) (n := 30) (by decide) (by decide) ?_
      subst hQe
      subst hAe
      exact W.aret (v := .ref aR) hx hb hr (Or.inr ⟨_, rfl⟩) (Or.inr ⟨_, rfl⟩) (fun t ht hW => ⟨⟨u, aR, rfl, fun j hj => by rw [hu j hj, bf_Tx_end (T := T0) (M := M) (tf := tf) (by rw [show i = 64 by omega] at htx; exact htx) (j / 4) (by omega)], by rw [ht]; exact hP.sub [1] rfl, hD.sub [1] (by decide) rfl⟩, hS.F ht⟩) hS.2.2 dX2_encryptMagicString_217
    | succ k ih =>
      intro i hi tf H locs ls htx hP hD hS hl
      refine lv_iload_n hx hb dX2_encryptMagicString_55 rfl (lv_at hl 2 rfl) ?_
      refine lv_bipush (v := nI 64) hx hb dX2_encryptMagicString_56 (by decide) ?_
      refine lv_icmp_ge (tgt := 184) hx hb dX2_encryptMagicString_58 (by decide) (fun c9 => absurd c9 (nI_ge (by omega) (by omega))) (fun _ => ?_)
      refine lv_iconst (v := nI (2 * 0)) hx hb dX2_encryptMagicString_61 (by decide) ?_
      refine lv_istore_n (lv' := [(3, .int (nI (2 * 0))), (0, .ref h0), (1, .ref aT), (2, .int (nI i))]) hx hb dX2_encryptMagicString_62 rfl hl (by decide) rfl (fun ls hl => ?_)
      have mid : ∀ (k2 b : Nat), b + k2 = 3 → ∀ (tf : Nat → Int32) (H : Heap) (locs : List Loc) (ls : Array Slot), bf_Tx T0 M i b tf → va_P (dC, dI) vwCl [(h0, .inr (2, [.ref aS, .ref aP])), aI cI aS 1024 fS, aI cI aP 18 fP, aI cI aT 6 tf] H → va_D A [(h0, .inr (2, [.ref aS, .ref aP])), aI cI aS 1024 fS, aI cI aP 18 fP, aI cI aT 6 tf] → va_S A s.heap H locs → lv_has ls 7 [(0, .ref h0), (1, .ref aT), (2, .int (nI i)), (3, .int (nI (2 * b)))] → W p l e (headSpec (ws_ yX2_encryptMagicString cX2_encryptMagicString 7 (some (.array .byte))) ({ frames := 2, cells := 2, slots := 30, locals := 45 } : Room)).room s m ([.ref h0] : List Value).toArray below meth c H locs 1 6 Q (F0 m 63 ls []) := by
        intro k2
        induction k2 with
        | zero =>
          intro b hb3 tf H locs ls htx hP hD hS hl
          refine lv_iload_n hx hb dX2_encryptMagicString_63 rfl (lv_at hl 3 rfl) ?_
          refine lv_bipush (v := nI 6) hx hb dX2_encryptMagicString_64 (by decide) ?_
          refine lv_icmp_ge (tgt := 178) hx hb dX2_encryptMagicString_66 (by decide) (fun _ => ?_) (fun c9 => absurd (nI_le (by omega) (by omega)) c9)
          refine lv_iinc (v := nI (i + 1)) (lv' := [(2, .int (nI (i + 1))), (0, .ref h0), (1, .ref aT), (3, .int (nI (2 * b)))]) hx hb dX2_encryptMagicString_178 hl (k := 2) rfl (nI_1 i) (by decide) rfl (fun ls hl => ?_)
          refine lv_goto (tgt := 55) hx hb dX2_encryptMagicString_181 (by decide) ?_
          exact ih (i + 1) (by omega) tf H locs ls (bf_Tx_next (by rw [show b = 3 by omega] at htx; exact htx)) hP hD hS (lv_sub hl [1, 2, 0] rfl)
        | succ k2 ih2 =>
          intro b hb3 tf H locs ls htx hP hD hS hl
          refine lv_iload_n hx hb dX2_encryptMagicString_63 rfl (lv_at hl 3 rfl) ?_
          refine lv_bipush (v := nI 6) hx hb dX2_encryptMagicString_64 (by decide) ?_
          refine lv_icmp_ge (tgt := 178) hx hb dX2_encryptMagicString_66 (by decide) (fun c9 => absurd c9 (nI_ge (by omega) (by omega))) (fun _ => ?_)
          refine lv_aload_n hx hb dX2_encryptMagicString_69 rfl (lv_at hl 1 rfl) ?_
          refine lv_iload_n hx hb dX2_encryptMagicString_70 rfl (lv_at hl 3 rfl) ?_
          refine cx_iald hx hb hK hP 3 0 rfl rfl ((2 * b)) (rfl) (by omega) (by decide) dX2_encryptMagicString_71 ?_
          refine lv_topi (fun vl evl => ?_)
          refine lv_istore (lv' := [(4, .int vl), (0, .ref h0), (1, .ref aT), (2, .int (nI i)), (3, .int (nI (2 * b)))]) hx hb dX2_encryptMagicString_72 hl (by decide) rfl (fun ls hl => ?_)
          refine lv_aload_n hx hb dX2_encryptMagicString_74 rfl (lv_at hl 2 rfl) ?_
          refine lv_iload_n hx hb dX2_encryptMagicString_75 rfl (lv_at hl 4 rfl) ?_
          refine lv_iconst (v := 1) hx hb dX2_encryptMagicString_76 (by decide) ?_
          refine lv_iadd hx hb dX2_encryptMagicString_77 ?_
          refine cx_top (nI (2 * b + 1)) (nI_1 (2 * b)) ?_
          refine cx_iald hx hb hK hP 3 0 rfl rfl ((2 * b + 1)) (rfl) (by omega) (by decide) dX2_encryptMagicString_78 ?_
          refine lv_topi (fun vr evr => ?_)
          refine lv_istore (lv' := [(5, .int vr), (4, .int vl), (0, .ref h0), (1, .ref aT), (2, .int (nI i)), (3, .int (nI (2 * b)))]) hx hb dX2_encryptMagicString_79 hl (by decide) rfl (fun ls hl => ?_)
          refine lv_iload hx hb dX2_encryptMagicString_81 (lv_at hl 1 rfl) ?_
          refine lv_aload_n hx hb dX2_encryptMagicString_83 rfl (lv_at hl 2 rfl) ?_
          refine va_get (D := (dC, dI)) (ci := 2) (v := .ref aP) (C := RX2) (T := TX2) (N := 2) hx hb hts in_X2 hown hK hP 0 rfl rfl 1 (by decide) (hts _ q151) (fun _ h9 => h9) rfl dX2_encryptMagicString_84 ?_
          refine lv_iconst (v := 0) hx hb dX2_encryptMagicString_87 (by decide) ?_
          refine cx_iald hx hb hK hP 2 0 rfl rfl (0) (rfl) (by decide) (by decide) dX2_encryptMagicString_88 ?_
          refine lv_ixor hx hb dX2_encryptMagicString_89 ?_
          refine lv_topi (fun v0 ev0 => ?_)
          refine lv_istore (lv' := [(4, .int v0), (5, .int vr), (0, .ref h0), (1, .ref aT), (2, .int (nI i)), (3, .int (nI (2 * b)))]) hx hb dX2_encryptMagicString_90 hl (by decide) rfl (fun ls hl => ?_)
          refine lv_iconst (v := nI (2 * 0 + 1)) hx hb dX2_encryptMagicString_92 (by decide) ?_
          refine lv_istore (lv' := [(6, .int (nI (2 * 0 + 1))), (4, .int v0), (5, .int vr), (0, .ref h0), (1, .ref aT), (2, .int (nI i)), (3, .int (nI (2 * b)))]) hx hb dX2_encryptMagicString_93 hl (by decide) rfl (fun ls hl => ?_)
          have inner : ∀ (k j : Nat), j + k = 8 → ∀ (yl yr : Int32) (ls : Array Slot), yl = (bf_rds fP fS (2 * j) (vl, vr)).1 ^^^ fP (2 * j) → yr = (bf_rds fP fS (2 * j) (vl, vr)).2 → (∀ (yl yr : Int32) (ls : Array Slot), yl = (bf_rds fP fS 16 (vl, vr)).1 ^^^ fP 16 → yr = (bf_rds fP fS 16 (vl, vr)).2 → lv_has ls 7 [(0, .ref h0), (1, .ref aT), (2, .int (nI i)), (3, .int (nI (2 * b))), (4, .int yl), (5, .int yr)] → W p l e (headSpec (ws_ yX2_encryptMagicString cX2_encryptMagicString 7 (some (.array .byte))) ({ frames := 2, cells := 2, slots := 30, locals := 45 } : Room)).room s m ([.ref h0] : List Value).toArray below meth c H locs 1 6 Q (F0 m 148 ls [])) → lv_has ls 7 [(0, .ref h0), (1, .ref aT), (2, .int (nI i)), (3, .int (nI (2 * b))), (4, .int yl), (5, .int yr), (6, .int (nI (2 * j + 1)))] → W p l e (headSpec (ws_ yX2_encryptMagicString cX2_encryptMagicString 7 (some (.array .byte))) ({ frames := 2, cells := 2, slots := 30, locals := 45 } : Room)).room s m ([.ref h0] : List Value).toArray below meth c H locs 1 6 Q (F0 m 95 ls []) := by
            intro k
            induction k with
            | zero =>
              intro j hj yl yr ls hyl hyr kx hl
              refine lv_iload hx hb dX2_encryptMagicString_95 (lv_at hl 6 rfl) ?_
              refine lv_bipush (v := nI 16) hx hb dX2_encryptMagicString_97 (by decide) ?_
              refine lv_icmp_ge (tgt := 148) hx hb dX2_encryptMagicString_99 (by decide) (fun _ => ?_) (fun c9 => absurd (nI_le (by omega) (by omega)) c9)
              have hj8 : j = 8 := by omega
              subst hj8
              exact kx yl yr ls hyl hyr (lv_sub hl [0, 1, 2, 3, 4, 5] rfl)
            | succ k ih =>
              intro j hj yl yr ls hyl hyr kx hl
              refine lv_iload hx hb dX2_encryptMagicString_95 (lv_at hl 6 rfl) ?_
              refine lv_bipush (v := nI 16) hx hb dX2_encryptMagicString_97 (by decide) ?_
              refine lv_icmp_ge (tgt := 148) hx hb dX2_encryptMagicString_99 (by decide) (fun c9 => absurd c9 (nI_ge (by omega) (by omega))) (fun _ => ?_)
              refine lv_iload hx hb dX2_encryptMagicString_102 (lv_at hl 5 rfl) ?_
              refine lv_aload_n hx hb dX2_encryptMagicString_104 rfl (lv_at hl 0 rfl) ?_
              refine lv_iload hx hb dX2_encryptMagicString_105 (lv_at hl 4 rfl) ?_
              refine vp_callSi (va_runV (As := [.int yl]) (rest := [.int yr]) ⟨hx, hb, hml, hown, hts⟩ (met_F l dC dI cI cB h0 aS aP fS yl) (cwV 1 hts (lw_V q212 q214 qs5 q13 q215) rfl rfl rfl (by decide +kernel) ⟨Nat.le_of_ble_eq_true rfl, Nat.le_of_ble_eq_true rfl⟩) (cx_ppV (ci := 2) (q0 := 0) rfl rfl hP hK [0, 1] rfl) rfl rfl hl.1 rfl (lv_room (Nat.le_of_ble_eq_true rfl)) dX2_encryptMagicString_107 ⟨Nat.le_of_ble_eq_true rfl, Nat.le_of_ble_eq_true rfl⟩).run (fun r_1 hr_1 => ?_)
              obtain rfl : r_1 = bf_F fS yl := hr_1
              refine lv_aload_n hx hb dX2_encryptMagicString_110 rfl (lv_at hl 0 rfl) ?_
              refine va_get (D := (dC, dI)) (ci := 2) (v := .ref aP) (C := RX2) (T := TX2) (N := 2) hx hb hts in_X2 hown hK hP 0 rfl rfl 1 (by decide) (hts _ q151) (fun _ h9 => h9) rfl dX2_encryptMagicString_111 ?_
              refine lv_iload hx hb dX2_encryptMagicString_114 (lv_at hl 6 rfl) ?_
              refine cx_iald hx hb hK hP 2 0 rfl rfl ((2 * j + 1)) (rfl) (by omega) (by decide) dX2_encryptMagicString_116 ?_
              refine lv_ixor hx hb dX2_encryptMagicString_117 ?_
              refine lv_ixor hx hb dX2_encryptMagicString_118 ?_
              refine lv_topi (fun zr ezr => ?_)
              refine lv_istore (lv' := [(5, .int zr), (0, .ref h0), (1, .ref aT), (2, .int (nI i)), (3, .int (nI (2 * b))), (4, .int yl), (6, .int (nI (2 * j + 1)))]) hx hb dX2_encryptMagicString_119 hl (by decide) rfl (fun ls hl => ?_)
              refine lv_iload hx hb dX2_encryptMagicString_121 (lv_at hl 5 rfl) ?_
              refine lv_aload_n hx hb dX2_encryptMagicString_123 rfl (lv_at hl 1 rfl) ?_
              refine lv_iload hx hb dX2_encryptMagicString_124 (lv_at hl 0 rfl) ?_
              refine vp_callSi (va_runV (As := [.int zr]) (rest := [.int yl]) ⟨hx, hb, hml, hown, hts⟩ (met_F l dC dI cI cB h0 aS aP fS zr) (cwV 1 hts (lw_V q212 q214 qs5 q13 q215) rfl rfl rfl (by decide +kernel) ⟨Nat.le_of_ble_eq_true rfl, Nat.le_of_ble_eq_true rfl⟩) (cx_ppV (ci := 2) (q0 := 0) rfl rfl hP hK [0, 1] rfl) rfl rfl hl.1 rfl (lv_room (Nat.le_of_ble_eq_true rfl)) dX2_encryptMagicString_126 ⟨Nat.le_of_ble_eq_true rfl, Nat.le_of_ble_eq_true rfl⟩).run (fun r_2 hr_2 => ?_)
              obtain rfl : r_2 = bf_F fS zr := hr_2
              refine lv_aload_n hx hb dX2_encryptMagicString_129 rfl (lv_at hl 1 rfl) ?_
              refine va_get (D := (dC, dI)) (ci := 2) (v := .ref aP) (C := RX2) (T := TX2) (N := 2) hx hb hts in_X2 hown hK hP 0 rfl rfl 1 (by decide) (hts _ q151) (fun _ h9 => h9) rfl dX2_encryptMagicString_130 ?_
              refine lv_iload hx hb dX2_encryptMagicString_133 (lv_at hl 6 rfl) ?_
              refine lv_iconst (v := 1) hx hb dX2_encryptMagicString_135 (by decide) ?_
              refine lv_iadd hx hb dX2_encryptMagicString_136 ?_
              refine cx_top (nI (2 * j + 1 + 1)) (nI_1 (2 * j + 1)) ?_
              refine cx_iald hx hb hK hP 2 0 rfl rfl ((2 * j + 1 + 1)) (rfl) (by omega) (by decide) dX2_encryptMagicString_137 ?_
              refine lv_ixor hx hb dX2_encryptMagicString_138 ?_
              refine lv_ixor hx hb dX2_encryptMagicString_139 ?_
              refine lv_topi (fun zl ezl => ?_)
              refine lv_istore (lv' := [(4, .int zl), (5, .int zr), (0, .ref h0), (1, .ref aT), (2, .int (nI i)), (3, .int (nI (2 * b))), (6, .int (nI (2 * j + 1)))]) hx hb dX2_encryptMagicString_140 hl (by decide) rfl (fun ls hl => ?_)
              refine lv_iinc (v := nI (2 * (j + 1) + 1)) (lv' := [(6, .int (nI (2 * (j + 1) + 1))), (4, .int zl), (5, .int zr), (0, .ref h0), (1, .ref aT), (2, .int (nI i)), (3, .int (nI (2 * b)))]) hx hb dX2_encryptMagicString_142 hl (k := 6) rfl (by rw [show 2 * (j + 1) + 1 = 2 * j + 1 + 2 by omega]; exact nI_add (2 * j + 1) 2) (by decide) rfl (fun ls hl => ?_)
              refine lv_goto (tgt := 95) hx hb dX2_encryptMagicString_145 (by decide) ?_
              obtain ⟨g1, g2⟩ := bf_two hyl hyr ezr ezl
              exact ih (j + 1) (by omega) zl zr ls g1 g2 kx (lv_sub hl [3, 4, 5, 6, 1, 2, 0] rfl)
          refine inner 8 0 rfl _ _ ls (ev0) (rfl) (fun zl zr ls hzl hzr hl => ?_) (lv_sub hl [3, 4, 5, 6, 1, 2, 0] rfl)
          refine lv_iload hx hb dX2_encryptMagicString_148 (lv_at hl 5 rfl) ?_
          refine lv_aload_n hx hb dX2_encryptMagicString_150 rfl (lv_at hl 0 rfl) ?_
          refine va_get (D := (dC, dI)) (ci := 2) (v := .ref aP) (C := RX2) (T := TX2) (N := 2) hx hb hts in_X2 hown hK hP 0 rfl rfl 1 (by decide) (hts _ q151) (fun _ h9 => h9) rfl dX2_encryptMagicString_151 ?_
          refine lv_bipush (v := 17) hx hb dX2_encryptMagicString_154 (by decide) ?_
          refine cx_iald hx hb hK hP 2 0 rfl rfl (17) (rfl) (by decide) (by decide) dX2_encryptMagicString_156 ?_
          refine lv_ixor hx hb dX2_encryptMagicString_157 ?_
          refine lv_topi (fun z3 ez3 => ?_)
          refine lv_istore (lv' := [(5, .int z3), (0, .ref h0), (1, .ref aT), (2, .int (nI i)), (3, .int (nI (2 * b))), (4, .int zl)]) hx hb dX2_encryptMagicString_158 hl (by decide) rfl (fun ls hl => ?_)
          refine lv_aload_n hx hb dX2_encryptMagicString_160 rfl (lv_at hl 2 rfl) ?_
          refine lv_iload_n hx hb dX2_encryptMagicString_161 rfl (lv_at hl 4 rfl) ?_
          refine lv_iload hx hb dX2_encryptMagicString_162 (lv_at hl 0 rfl) ?_
          refine cx_iast hx hb hK hP hD hS 3 0 rfl rfl ((2 * b)) (rfl) (by omega) (by decide) dX2_encryptMagicString_164 (fun H locs hP hD hS => ?_)
          have hP : va_P (dC, dI) vwCl [(h0, .inr (2, [.ref aS, .ref aP])), aI cI aS 1024 fS, aI cI aP 18 fP, aI cI aT 6 (upd tf (2 * b) z3)] H := hP
          have hD : va_D A [(h0, .inr (2, [.ref aS, .ref aP])), aI cI aS 1024 fS, aI cI aP 18 fP, aI cI aT 6 (upd tf (2 * b) z3)] := hD
          refine lv_aload_n hx hb dX2_encryptMagicString_165 rfl (lv_at hl 2 rfl) ?_
          refine lv_iload_n hx hb dX2_encryptMagicString_166 rfl (lv_at hl 4 rfl) ?_
          refine lv_iconst (v := 1) hx hb dX2_encryptMagicString_167 (by decide) ?_
          refine lv_iadd hx hb dX2_encryptMagicString_168 ?_
          refine cx_top (nI (2 * b + 1)) (nI_1 (2 * b)) ?_
          refine lv_iload hx hb dX2_encryptMagicString_169 (lv_at hl 5 rfl) ?_
          refine cx_iast hx hb hK hP hD hS 3 0 rfl rfl ((2 * b + 1)) (rfl) (by omega) (by decide) dX2_encryptMagicString_171 (fun H locs hP hD hS => ?_)
          have hP : va_P (dC, dI) vwCl [(h0, .inr (2, [.ref aS, .ref aP])), aI cI aS 1024 fS, aI cI aP 18 fP, aI cI aT 6 (upd (upd tf (2 * b) z3) (2 * b + 1) zl)] H := hP
          have hD : va_D A [(h0, .inr (2, [.ref aS, .ref aP])), aI cI aS 1024 fS, aI cI aP 18 fP, aI cI aT 6 (upd (upd tf (2 * b) z3) (2 * b + 1) zl)] := hD
          refine lv_iinc (v := nI (2 * (b + 1))) (lv' := [(3, .int (nI (2 * (b + 1)))), (5, .int z3), (0, .ref h0), (1, .ref aT), (2, .int (nI i)), (4, .int zl)]) hx hb dX2_encryptMagicString_172 hl (k := 4) rfl (nI_add (2 * b) 2) (by decide) rfl (fun ls hl => ?_)
          refine lv_goto (tgt := 63) hx hb dX2_encryptMagicString_175 (by decide) ?_
          rw [evl, evr] at hzl hzr
          exact ih2 (b + 1) (by omega) _ H locs ls (bf_Tx_step htx (by omega) hT hzl hzr ez3) hP hD hS (lv_sub hl [2, 3, 4, 0] rfl)
      exact mid 3 0 (by omega) tf H locs ls htx hP hD hS (lv_sub hl [1, 2, 3, 0] rfl)
  exact loop 64 0 (by omega) _ _ _ ls ht0 hP hD hS (lv_sub hl [2, 1, 0] rfl)
end
section
/-! BCrypt: deriveRawKey, generate -/
set_option maxHeartbeats 4000000 in
set_option maxRecDepth 100000 in
/-- BCrypt.deriveRawKey -/
theorem met_derive (l : Launch) (dC : Nat → ClassId) (dI : Nat → Nat → Nat) (cI cB : ClassId) (h0 aS aP aK aH n cst r : Nat) (T M fP fS g sb : Nat → Int32) (hn : 0 < n) (hn2 : n < 2 ^ 30) (hc4 : 4 ≤ cst) (hc31 : cst ≤ 31) (hr2 : (1 : Int32) <<< (nI cst &&& 31) = nI r) (hr3 : r < 2 ^ 30) (sz : Nat) : Met l yX2_deriveRawKey (ws_ yX2_deriveRawKey cX2_deriveRawKey 8 (some (.array .byte))) ({ frames := 3, cells := 4, slots := 50, locals := 71 } : Room) (cx_Pre (dC, dI) (tyL cI cB) [.ref h0, .int (nI cst), .ref aH, .ref aK] [(h0, .inr (2, [.ref aS, .ref aP])), aI cI aS 1024 fS, aI cI aP 18 fP, aI cB aK n g, aI cB aH 16 sb] sz (cx_Bc T M (va_A [(h0, .inr (2, [.ref aS, .ref aP])), aI cI aS 1024 fS, aI cI aP 18 fP, aI cB aK n g, aI cB aH 16 sb] sz))) (cx_Qr (S := Nat → Int32) (dC, dI) [(h0, .inr (2, [.ref aS, .ref aP])), aI cI aS 1024 fS, aI cI aP 18 fP, aI cB aK n g, aI cB aH 16 sb] sz (fun u => ∀ j, j < 24 → u j &&& 255 = bf_by (bf_out (bf_fin (fun j => g j &&& 255) n (fun j => sb j &&& 255) r T) M (j / 4)) (j % 4)) (fun u ra => [aI cB aK n g, aI cB aH 16 sb, aI cB ra 24 u])) 4 50 (va_A [(h0, .inr (2, [.ref aS, .ref aP])), aI cI aS 1024 fS, aI cI aP 18 fP, aI cB aK n g, aI cB aH 16 sb] sz) := by
  refine Met.ofW (cc := cX2_deriveRawKey) (maxL := 8) (ret := (some (.array .byte))) (by decide) rfl ?_
  intro p e s m args below meth c s₁ B hml hv
  obtain ⟨rfl, hsz, hP, hK, hD0, hE⟩ := hv
  have hx := B.exec
  have hb := B.bytes
  have hr := B.returns
  have hts := atoms_spec (ws := (ws_ yX2_deriveRawKey cX2_deriveRawKey 8 (some (.array .byte)))) B.pre
  have hts : ∀ w ∈ lw_all, w.before _ s = true := fun w h => hts w (List.mem_cons_of_mem _ h)
  have hown : s.vm.findClass RX2 = some m.cls := findClass_of_methodNamed B.named
  have hlocks := B.notSynchronized
  subst hsz
  obtain ⟨A, hAe⟩ : ∃ A : Nat → Prop, A = va_A [(h0, .inr (2, [.ref aS, .ref aP])), aI cI aS 1024 fS, aI cI aP 18 fP, aI cB aK n g, aI cB aH 16 sb] s.heap.size := ⟨_, rfl⟩
  have hD : va_D A [(h0, .inr (2, [.ref aS, .ref aP])), aI cI aS 1024 fS, aI cI aP 18 fP, aI cB aK n g, aI cB aH 16 sb] := by rw [hAe]; exact hD0.self
  rw [← hAe] at hE
  have hA : ∀ q : Nat, s.heap.size ≤ q → A q := fun q h => by rw [hAe]; exact Or.inr h
  have hS : va_S A s.heap s.heap [] := va_S.rf
  refine cx_Q (fun Q hQe => ?_)
  have hP : va_P (dC, dI) vwCl [(h0, .inr (2, [.ref aS, .ref aP])), aI cI aS 1024 fS, aI cI aP 18 fP, aI cB aK n g, aI cB aH 16 sb] s.heap := hP
  have hl := lv_entry ([.ref h0, .int (nI cst), .ref aH, .ref aK]) (n := 8) (Nat.le_of_ble_eq_true rfl)
  rw [lg_entry_eq]
  generalize (lg_sl ([.ref h0, .int (nI cst), .ref aH, .ref aK]) ++ List.replicate (8 - (lg_sl ([.ref h0, .int (nI cst), .ref aH, .ref aK])).length) Slot.unset).toArray = ls at hl ⊢
  have hl : lv_has ls 8 [(0, .ref h0), (1, .int (nI cst)), (2, .ref aH), (3, .ref aK)] := hl
  refine lv_aload_n hx hb dX2_deriveRawKey_0 rfl (lv_at hl 2 rfl) ?_
  refine va_alen (v := nI 16) hx hb hK hP 4 1 rfl rfl rfl dX2_deriveRawKey_1 ?_
  refine lv_bipush (v := nI 16) hx hb dX2_deriveRawKey_2 (by decide) ?_
  refine lv_icmp_eq (tgt := 17) hx hb dX2_deriveRawKey_4 (by decide) (fun _ => ?_) (fun c9 => absurd (rfl) c9)
  refine lv_iload_n hx hb dX2_deriveRawKey_17 rfl (lv_at hl 1 rfl) ?_
  refine lv_iconst (v := nI 4) hx hb dX2_deriveRawKey_18 (by decide) ?_
  refine lv_icmp_lt (tgt := 28) hx hb dX2_deriveRawKey_19 (by decide) (fun c9 => absurd c9 (nI_nlt (by omega) (by omega))) (fun _ => ?_)
  refine lv_iload_n hx hb dX2_deriveRawKey_22 rfl (lv_at hl 1 rfl) ?_
  refine lv_bipush (v := nI 31) hx hb dX2_deriveRawKey_23 (by decide) ?_
  refine lv_icmp_le (tgt := 38) hx hb dX2_deriveRawKey_25 (by decide) (fun _ => ?_) (fun c9 => absurd (nI_le (by omega) (by omega)) c9)
  refine lv_aload_n hx hb dX2_deriveRawKey_38 rfl (lv_at hl 3 rfl) ?_
  refine va_alen (v := nI n) hx hb hK hP 3 1 rfl rfl rfl dX2_deriveRawKey_39 ?_
  refine lv_if_ne (tgt := 47) hx hb dX2_deriveRawKey_40 (by decide) (fun _ => ?_) (fun c9 => absurd c9 (nI_ne0 hn (by omega)))
  refine lv_aload_n hx hb dX2_deriveRawKey_47 rfl (lv_at hl 0 rfl) ?_
  refine cx_callv (wr := [aI cB aK n g, aI cB aH 16 sb]) (va_runV (As := []) (rest := []) ⟨hx, hb, hml, hown, hts⟩ (met_initS l dC dI cI cB h0 aS aP T M fP fS s.heap.size) (cwV 0 hts (lw_V q183 q185 qs2 q13 q186) rfl rfl rfl (by decide +kernel) ⟨Nat.le_of_ble_eq_true rfl, Nat.le_of_ble_eq_true rfl⟩) (cx_preV (ci := 2) (q0 := 0) rfl rfl hP hD hK [0, 1, 2] rfl (by decide) rfl (cx_Bc_b) (fun U hU hW => hE.pass hS (va_free (wc := [(h0, .inr (2, [.ref aS, .ref aP])), aI cI aS 1024 fS, aI cI aP 18 fP]) hD hS hA [0, 1, 2] rfl) hU hW)) rfl rfl hl.1 rfl (lv_room (Nat.le_of_ble_eq_true rfl)) dX2_deriveRawKey_48 ⟨Nat.le_of_ble_eq_true rfl, Nat.le_of_ble_eq_true rfl⟩) hP hD hS hA [0, 1, 2] [3, 4] rfl rfl (by decide) (by decide) (fun u0 H locs hw0 hP hD hS => ?_)
  obtain ⟨gP, gS⟩ := u0
  have hw0 : bf_Ag gP gS T := hw0
  have hP : va_P (dC, dI) vwCl [aI cB aK n g, aI cB aH 16 sb, (h0, .inr (2, [.ref aS, .ref aP])), aI cI aS 1024 gS, aI cI aP 18 gP] H := hP
  have hD : va_D A [aI cB aK n g, aI cB aH 16 sb, (h0, .inr (2, [.ref aS, .ref aP])), aI cI aS 1024 gS, aI cI aP 18 gP] := hD
  refine lv_iconst (v := 4) hx hb dX2_deriveRawKey_51 (by decide) ?_
  refine cx_newI hx hb (hts _ q157) hK hP hD hS hA (4) (rfl) (by decide) (by decide) (by decide) dX2_deriveRawKey_52 (fun a4 H hP hD hS => ?_)
  have hP : va_P (dC, dI) vwCl [aI cB aK n g, aI cB aH 16 sb, (h0, .inr (2, [.ref aS, .ref aP])), aI cI aS 1024 gS, aI cI aP 18 gP, aI cI a4 4 (fun _ => 0)] H := hP
  have hD : va_D A [aI cB aK n g, aI cB aH 16 sb, (h0, .inr (2, [.ref aS, .ref aP])), aI cI aS 1024 gS, aI cI aP 18 gP, aI cI a4 4 (fun _ => 0)] := hD
  refine lv_astore (lv' := [(4, .ref a4), (0, .ref h0), (1, .int (nI cst)), (2, .ref aH), (3, .ref aK)]) hx hb dX2_deriveRawKey_54 hl (by decide) rfl (fun ls hl => ?_)
  refine lv_aload_n hx hb dX2_deriveRawKey_56 rfl (lv_at hl 3 rfl) ?_
  refine lv_iconst (v := nI 0) hx hb dX2_deriveRawKey_57 (by decide) ?_
  refine lv_aload hx hb dX2_deriveRawKey_58 (lv_at hl 0 rfl) ?_
  refine cx_callv (wr := [aI cB aK n g, (h0, .inr (2, [.ref aS, .ref aP])), aI cI aS 1024 gS, aI cI aP 18 gP]) (va_runS (As := [.ref aH, .int (nI 0), .ref a4]) (rest := []) ⟨hx, hb, hml, hown, hts⟩ (met_b2i4 l dC dI cI cB aH a4 sb (fun _ => 0) H.size) (va_cwS 3 hts (lw_S q198 q199 q22 q200) rfl rfl rfl (by decide +kernel) ⟨Nat.le_of_ble_eq_true rfl, Nat.le_of_ble_eq_true rfl⟩) (cx_preS hP hD hK [1, 5] rfl (by decide) rfl (cx_No_b) (fun _ _ _ => trivial)) rfl rfl hl.1 rfl (lv_room (Nat.le_of_ble_eq_true rfl)) dX2_deriveRawKey_60 ⟨Nat.le_of_ble_eq_true rfl, Nat.le_of_ble_eq_true rfl⟩) hP hD hS hA [1, 5] [0, 2, 3, 4] rfl rfl (by decide) (by decide) (fun w4 H locs hw4 hP hD hS => ?_)
  have hP : va_P (dC, dI) vwCl [aI cB aK n g, (h0, .inr (2, [.ref aS, .ref aP])), aI cI aS 1024 gS, aI cI aP 18 gP, aI cB aH 16 sb, aI cI a4 4 w4] H := hP
  have hD : va_D A [aI cB aK n g, (h0, .inr (2, [.ref aS, .ref aP])), aI cI aS 1024 gS, aI cI aP 18 gP, aI cB aH 16 sb, aI cI a4 4 w4] := hD
  have hs4 : ∀ i, i < 4 → w4 i = bf_4 (fun j => sb j &&& 255) 16 (4 * i) 4 := fun i hi => (hw4 i hi).trans (bf_be_4 sb (by omega))
  refine lv_aload_n hx hb dX2_deriveRawKey_63 rfl (lv_at hl 3 rfl) ?_
  refine va_alen (v := nI 16) hx hb hK hP 4 1 rfl rfl rfl dX2_deriveRawKey_64 ?_
  refine cx_newI hx hb (hts _ q157) hK hP hD hS hA (16) (rfl) (by decide) (by decide) (by decide) dX2_deriveRawKey_65 (fun a16 H hP hD hS => ?_)
  have hP : va_P (dC, dI) vwCl [aI cB aK n g, (h0, .inr (2, [.ref aS, .ref aP])), aI cI aS 1024 gS, aI cI aP 18 gP, aI cB aH 16 sb, aI cI a4 4 w4, aI cI a16 16 (fun _ => 0)] H := hP
  have hD : va_D A [aI cB aK n g, (h0, .inr (2, [.ref aS, .ref aP])), aI cI aS 1024 gS, aI cI aP 18 gP, aI cB aH 16 sb, aI cI a4 4 w4, aI cI a16 16 (fun _ => 0)] := hD
  refine lv_astore (lv' := [(5, .ref a16), (4, .ref a4), (0, .ref h0), (1, .int (nI cst)), (2, .ref aH), (3, .ref aK)]) hx hb dX2_deriveRawKey_67 hl (by decide) rfl (fun ls hl => ?_)
  refine lv_aload hx hb dX2_deriveRawKey_69 (lv_at hl 0 rfl) ?_
  refine lv_iconst (v := 0) hx hb dX2_deriveRawKey_71 (by decide) ?_
  refine lv_aload hx hb dX2_deriveRawKey_72 (lv_at hl 1 rfl) ?_
  refine lv_iconst (v := 2) hx hb dX2_deriveRawKey_74 (by decide) ?_
  refine cx_iald hx hb hK hP 5 0 rfl rfl (2) (rfl) (by decide) (by decide) dX2_deriveRawKey_75 ?_
  refine cx_iast hx hb hK hP hD hS 6 0 rfl rfl (0) (rfl) (by decide) (by decide) dX2_deriveRawKey_76 (fun H locs hP hD hS => ?_)
  have hP : va_P (dC, dI) vwCl [aI cB aK n g, (h0, .inr (2, [.ref aS, .ref aP])), aI cI aS 1024 gS, aI cI aP 18 gP, aI cB aH 16 sb, aI cI a4 4 w4, aI cI a16 16 (upd (fun _ => 0) 0 (w4 2))] H := hP
  have hD : va_D A [aI cB aK n g, (h0, .inr (2, [.ref aS, .ref aP])), aI cI aS 1024 gS, aI cI aP 18 gP, aI cB aH 16 sb, aI cI a4 4 w4, aI cI a16 16 (upd (fun _ => 0) 0 (w4 2))] := hD
  refine lv_aload hx hb dX2_deriveRawKey_77 (lv_at hl 0 rfl) ?_
  refine lv_iconst (v := 1) hx hb dX2_deriveRawKey_79 (by decide) ?_
  refine lv_aload hx hb dX2_deriveRawKey_80 (lv_at hl 1 rfl) ?_
  refine lv_iconst (v := 3) hx hb dX2_deriveRawKey_82 (by decide) ?_
  refine cx_iald hx hb hK hP 5 0 rfl rfl (3) (rfl) (by decide) (by decide) dX2_deriveRawKey_83 ?_
  refine cx_iast hx hb hK hP hD hS 6 0 rfl rfl (1) (rfl) (by decide) (by decide) dX2_deriveRawKey_84 (fun H locs hP hD hS => ?_)
  have hP : va_P (dC, dI) vwCl [aI cB aK n g, (h0, .inr (2, [.ref aS, .ref aP])), aI cI aS 1024 gS, aI cI aP 18 gP, aI cB aH 16 sb, aI cI a4 4 w4, aI cI a16 16 (upd (upd (fun _ => 0) 0 (w4 2)) 1 (w4 3))] H := hP
  have hD : va_D A [aI cB aK n g, (h0, .inr (2, [.ref aS, .ref aP])), aI cI aS 1024 gS, aI cI aP 18 gP, aI cB aH 16 sb, aI cI a4 4 w4, aI cI a16 16 (upd (upd (fun _ => 0) 0 (w4 2)) 1 (w4 3))] := hD
  refine lv_aload hx hb dX2_deriveRawKey_85 (lv_at hl 0 rfl) ?_
  refine lv_iconst (v := 2) hx hb dX2_deriveRawKey_87 (by decide) ?_
  refine lv_aload hx hb dX2_deriveRawKey_88 (lv_at hl 1 rfl) ?_
  refine lv_iconst (v := 0) hx hb dX2_deriveRawKey_90 (by decide) ?_
  refine cx_iald hx hb hK hP 5 0 rfl rfl (0) (rfl) (by decide) (by decide) dX2_deriveRawKey_91 ?_
  refine cx_iast hx hb hK hP hD hS 6 0 rfl rfl (2) (rfl) (by decide) (by decide) dX2_deriveRawKey_92 (fun H locs hP hD hS => ?_)
  have hP : va_P (dC, dI) vwCl [aI cB aK n g, (h0, .inr (2, [.ref aS, .ref aP])), aI cI aS 1024 gS, aI cI aP 18 gP, aI cB aH 16 sb, aI cI a4 4 w4, aI cI a16 16 (upd (upd (upd (fun _ => 0) 0 (w4 2)) 1 (w4 3)) 2 (w4 0))] H := hP
  have hD : va_D A [aI cB aK n g, (h0, .inr (2, [.ref aS, .ref aP])), aI cI aS 1024 gS, aI cI aP 18 gP, aI cB aH 16 sb, aI cI a4 4 w4, aI cI a16 16 (upd (upd (upd (fun _ => 0) 0 (w4 2)) 1 (w4 3)) 2 (w4 0))] := hD
  refine lv_aload hx hb dX2_deriveRawKey_93 (lv_at hl 0 rfl) ?_
  refine lv_iconst (v := 3) hx hb dX2_deriveRawKey_95 (by decide) ?_
  refine lv_aload hx hb dX2_deriveRawKey_96 (lv_at hl 1 rfl) ?_
  refine lv_iconst (v := 1) hx hb dX2_deriveRawKey_98 (by decide) ?_
  refine cx_iald hx hb hK hP 5 0 rfl rfl (1) (rfl) (by decide) (by decide) dX2_deriveRawKey_99 ?_
  refine cx_iast hx hb hK hP hD hS 6 0 rfl rfl (3) (rfl) (by decide) (by decide) dX2_deriveRawKey_100 (fun H locs hP hD hS => ?_)
  have hP : va_P (dC, dI) vwCl [aI cB aK n g, (h0, .inr (2, [.ref aS, .ref aP])), aI cI aS 1024 gS, aI cI aP 18 gP, aI cB aH 16 sb, aI cI a4 4 w4, aI cI a16 16 (upd (upd (upd (upd (fun _ => 0) 0 (w4 2)) 1 (w4 3)) 2 (w4 0)) 3 (w4 1))] H := hP
  have hD : va_D A [aI cB aK n g, (h0, .inr (2, [.ref aS, .ref aP])), aI cI aS 1024 gS, aI cI aP 18 gP, aI cB aH 16 sb, aI cI a4 4 w4, aI cI a16 16 (upd (upd (upd (upd (fun _ => 0) 0 (w4 2)) 1 (w4 3)) 2 (w4 0)) 3 (w4 1))] := hD
  generalize hw16 : upd (upd (upd (upd (fun _ => 0) 0 (w4 2)) 1 (w4 3)) 2 (w4 0)) 3 (w4 1) = w16 at hP hD
  refine lv_aload_n hx hb dX2_deriveRawKey_101 rfl (lv_at hl 2 rfl) ?_
  refine lv_aload_n hx hb dX2_deriveRawKey_102 rfl (lv_at hl 5 rfl) ?_
  refine cx_callv (wr := [aI cI aS 1024 gS, aI cB aH 16 sb, aI cI a4 4 w4, aI cI a16 16 w16]) (va_runV (As := [.ref aK]) (rest := []) ⟨hx, hb, hml, hown, hts⟩ (met_cx l dC dI cI cB h0 aS aP aK n gP g hn hn2 H.size) (cwV 1 hts (lw_V q204 q206 qs3 q13 q207) rfl rfl rfl (by decide +kernel) ⟨Nat.le_of_ble_eq_true rfl, Nat.le_of_ble_eq_true rfl⟩) (cx_preV (ci := 2) (q0 := 1) rfl rfl hP hD hK [1, 3, 0] rfl (by decide) rfl (cx_No_b) (fun _ _ _ => trivial)) rfl rfl hl.1 rfl (lv_room (Nat.le_of_ble_eq_true rfl)) dX2_deriveRawKey_103 ⟨Nat.le_of_ble_eq_true rfl, Nat.le_of_ble_eq_true rfl⟩) hP hD hS hA [1, 3, 0] [2, 4, 5, 6] rfl rfl (by decide) (by decide) (fun gP1 H locs hw1 hP hD hS => ?_)
  have hP : va_P (dC, dI) vwCl [aI cI aS 1024 gS, aI cB aH 16 sb, aI cI a4 4 w4, aI cI a16 16 w16, (h0, .inr (2, [.ref aS, .ref aP])), aI cI aP 18 gP1, aI cB aK n g] H := hP
  have hD : va_D A [aI cI aS 1024 gS, aI cB aH 16 sb, aI cI a4 4 w4, aI cI a16 16 w16, (h0, .inr (2, [.ref aS, .ref aP])), aI cI aP 18 gP1, aI cB aK n g] := hD
  have A1 : bf_Ag gP1 gS (bf_key (bf_kf (fun j => g j &&& 255) n) T) := hw0.key hw1
  refine lv_aload_n hx hb dX2_deriveRawKey_106 rfl (lv_at hl 2 rfl) ?_
  refine lv_aload_n hx hb dX2_deriveRawKey_107 rfl (lv_at hl 2 rfl) ?_
  refine va_get (D := (dC, dI)) (ci := 2) (v := .ref aP) (C := RX2) (T := TX2) (N := 2) hx hb hts in_X2 hown hK hP 4 rfl rfl 1 (by decide) (hts _ q151) (fun _ h9 => h9) rfl dX2_deriveRawKey_108 ?_
  refine lv_aload hx hb dX2_deriveRawKey_111 (lv_at hl 1 rfl) ?_
  refine lv_iconst (v := 0) hx hb dX2_deriveRawKey_113 (by decide) ?_
  refine lv_iconst (v := 0) hx hb dX2_deriveRawKey_114 (by decide) ?_
  refine cx_callv (wr := [aI cB aH 16 sb, aI cI a16 16 w16, aI cB aK n g]) (va_runV (As := [.ref aP, .ref a4, .int 0, .int 0]) (rest := []) ⟨hx, hb, hml, hown, hts⟩ (met_psP l dC dI cI cB h0 aS aP a4 4 (bf_key (bf_kf (fun j => g j &&& 255) n) T) gP1 gS w4 (bf_ws (fun j => sb j &&& 255)) 0 0 A1 (by decide) (by decide) (bf_ws_c1 hs4) H.size) (cwV 4 hts (lw_V q208 q210 qs4 q13 q211) rfl rfl rfl (by decide +kernel) ⟨Nat.le_of_ble_eq_true rfl, Nat.le_of_ble_eq_true rfl⟩) (cx_preV (ci := 2) (q0 := 4) rfl rfl hP hD hK [4, 0, 5, 2] rfl (by decide) rfl (cx_No_b) (fun _ _ _ => trivial)) rfl rfl hl.1 rfl (lv_room (Nat.le_of_ble_eq_true rfl)) dX2_deriveRawKey_115 ⟨Nat.le_of_ble_eq_true rfl, Nat.le_of_ble_eq_true rfl⟩) hP hD hS hA [4, 0, 5, 2] [1, 3, 6] rfl rfl (by decide) (by decide) (fun gP2 H locs A2 hP hD hS => ?_)
  have hP : va_P (dC, dI) vwCl [aI cB aH 16 sb, aI cI a16 16 w16, aI cB aK n g, (h0, .inr (2, [.ref aS, .ref aP])), aI cI aS 1024 gS, aI cI aP 18 gP2, aI cI a4 4 w4] H := hP
  have hD : va_D A [aI cB aH 16 sb, aI cI a16 16 w16, aI cB aK n g, (h0, .inr (2, [.ref aS, .ref aP])), aI cI aS 1024 gS, aI cI aP 18 gP2, aI cI a4 4 w4] := hD
  have A2 : bf_Ag gP2 gS (bf_run (bf_ws (fun j => sb j &&& 255)) 0 9 (bf_key (bf_kf (fun j => g j &&& 255) n) T, 0, 0)).1 := A2
  refine lv_aload hx hb dX2_deriveRawKey_118 (lv_at hl 1 rfl) ?_
  refine lv_iconst (v := 0) hx hb dX2_deriveRawKey_120 (by decide) ?_
  refine cx_callv (wr := [aI cB aH 16 sb, aI cI a16 16 w16, aI cB aK n g, (h0, .inr (2, [.ref aS, .ref aP])), aI cI aS 1024 gS, aI cI aP 18 gP2]) (va_runS (As := [.ref a4, .int 0]) (rest := []) ⟨hx, hb, hml, hown, hts⟩ (met_fill l dC dI cI cB a4 4 0 w4 (by decide) H.size) (va_cwS 2 hts (lw_S q216 q217 q18 q218) rfl rfl rfl (by decide +kernel) ⟨Nat.le_of_ble_eq_true rfl, Nat.le_of_ble_eq_true rfl⟩) (cx_preS hP hD hK [6] rfl (by decide) rfl (cx_No_b) (fun _ _ _ => trivial)) rfl rfl hl.1 rfl (lv_room (Nat.le_of_ble_eq_true rfl)) dX2_deriveRawKey_121 ⟨Nat.le_of_ble_eq_true rfl, Nat.le_of_ble_eq_true rfl⟩) hP hD hS hA [6] [0, 1, 2, 3, 4, 5] rfl rfl (by decide) (by decide) (fun z4 H locs _ hP hD hS => ?_)
  have hP : va_P (dC, dI) vwCl [aI cB aH 16 sb, aI cI a16 16 w16, aI cB aK n g, (h0, .inr (2, [.ref aS, .ref aP])), aI cI aS 1024 gS, aI cI aP 18 gP2, aI cI a4 4 z4] H := hP
  have hD : va_D A [aI cB aH 16 sb, aI cI a16 16 w16, aI cB aK n g, (h0, .inr (2, [.ref aS, .ref aP])), aI cI aS 1024 gS, aI cI aP 18 gP2, aI cI a4 4 z4] := hD
  refine lv_aload_n hx hb dX2_deriveRawKey_124 rfl (lv_at hl 2 rfl) ?_
  refine lv_aload_n hx hb dX2_deriveRawKey_125 rfl (lv_at hl 2 rfl) ?_
  refine va_get (D := (dC, dI)) (ci := 2) (v := .ref aS) (C := RX2) (T := TX2) (N := 2) hx hb hts in_X2 hown hK hP 3 rfl rfl 0 (by decide) (hts _ q150) (fun _ h9 => h9) rfl dX2_deriveRawKey_126 ?_
  refine lv_aload hx hb dX2_deriveRawKey_129 (lv_at hl 0 rfl) ?_
  refine lv_aload_n hx hb dX2_deriveRawKey_131 rfl (lv_at hl 2 rfl) ?_
  refine va_get (D := (dC, dI)) (ci := 2) (v := .ref aP) (C := RX2) (T := TX2) (N := 2) hx hb hts in_X2 hown hK hP 3 rfl rfl 1 (by decide) (hts _ q151) (fun _ h9 => h9) rfl dX2_deriveRawKey_132 ?_
  refine lv_aload_n hx hb dX2_deriveRawKey_135 rfl (lv_at hl 2 rfl) ?_
  refine va_get (D := (dC, dI)) (ci := 2) (v := .ref aP) (C := RX2) (T := TX2) (N := 2) hx hb hts in_X2 hown hK hP 3 rfl rfl 1 (by decide) (hts _ q151) (fun _ h9 => h9) rfl dX2_deriveRawKey_136 ?_
  refine va_alen (v := nI 18) hx hb hK hP 5 0 rfl rfl rfl dX2_deriveRawKey_139 ?_
  refine lv_iconst (v := 2) hx hb dX2_deriveRawKey_140 (by decide) ?_
  refine lv_isub hx hb dX2_deriveRawKey_141 ?_
  refine cx_top (nI 16) (by decide) ?_
  refine cx_iald hx hb hK hP 5 0 rfl rfl (16) (rfl) (by omega) (by decide) dX2_deriveRawKey_142 ?_
  refine lv_aload_n hx hb dX2_deriveRawKey_143 rfl (lv_at hl 2 rfl) ?_
  refine va_get (D := (dC, dI)) (ci := 2) (v := .ref aP) (C := RX2) (T := TX2) (N := 2) hx hb hts in_X2 hown hK hP 3 rfl rfl 1 (by decide) (hts _ q151) (fun _ h9 => h9) rfl dX2_deriveRawKey_144 ?_
  refine lv_aload_n hx hb dX2_deriveRawKey_147 rfl (lv_at hl 2 rfl) ?_
  refine va_get (D := (dC, dI)) (ci := 2) (v := .ref aP) (C := RX2) (T := TX2) (N := 2) hx hb hts in_X2 hown hK hP 3 rfl rfl 1 (by decide) (hts _ q151) (fun _ h9 => h9) rfl dX2_deriveRawKey_148 ?_
  refine va_alen (v := nI 18) hx hb hK hP 5 0 rfl rfl rfl dX2_deriveRawKey_151 ?_
  refine lv_iconst (v := 1) hx hb dX2_deriveRawKey_152 (by decide) ?_
  refine lv_isub hx hb dX2_deriveRawKey_153 ?_
  refine cx_top (nI 17) (by decide) ?_
  refine cx_iald hx hb hK hP 5 0 rfl rfl (17) (rfl) (by omega) (by decide) dX2_deriveRawKey_154 ?_
  refine cx_callv (wr := [aI cB aH 16 sb, aI cB aK n g, aI cI a4 4 z4]) (va_runV (As := [.ref aS, .ref a16, .int (gP2 16), .int (gP2 17)]) (rest := []) ⟨hx, hb, hml, hown, hts⟩ (met_psS l dC dI cI cB h0 aS aP a16 16 (bf_run (bf_ws (fun j => sb j &&& 255)) 0 9 (bf_key (bf_kf (fun j => g j &&& 255) n) T, 0, 0)).1 gP2 gS w16 (bf_ws (fun j => sb j &&& 255)) (gP2 16) (gP2 17) A2 (by decide) (by decide) (bf_ws_c2 hs4 (by rw [← hw16]; rfl) (by rw [← hw16]; rfl) (by rw [← hw16]; rfl) (by rw [← hw16]; rfl)) H.size) (cwV 4 hts (lw_V q208 q210 qs4 q13 q211) rfl rfl rfl (by decide +kernel) ⟨Nat.le_of_ble_eq_true rfl, Nat.le_of_ble_eq_true rfl⟩) (cx_preV (ci := 2) (q0 := 3) rfl rfl hP hD hK [3, 4, 5, 1] rfl (by decide) rfl (cx_No_b) (fun _ _ _ => trivial)) rfl rfl hl.1 rfl (lv_room (Nat.le_of_ble_eq_true rfl)) dX2_deriveRawKey_155 ⟨Nat.le_of_ble_eq_true rfl, Nat.le_of_ble_eq_true rfl⟩) hP hD hS hA [3, 4, 5, 1] [0, 2, 6] rfl rfl (by decide) (by decide) (fun gS1 H locs hw3 hP hD hS => ?_)
  have hP : va_P (dC, dI) vwCl [aI cB aH 16 sb, aI cB aK n g, aI cI a4 4 z4, (h0, .inr (2, [.ref aS, .ref aP])), aI cI aS 1024 gS1, aI cI aP 18 gP2, aI cI a16 16 w16] H := hP
  have hD : va_D A [aI cB aH 16 sb, aI cB aK n g, aI cI a4 4 z4, (h0, .inr (2, [.ref aS, .ref aP])), aI cI aS 1024 gS1, aI cI aP 18 gP2, aI cI a16 16 w16] := hD
  have A3 : bf_Ag gP2 gS1 (bf_spr (bf_kf (fun j => g j &&& 255) n) (bf_ws (fun j => sb j &&& 255)) T) := bf_spr_of A2 hw3
  refine lv_aload hx hb dX2_deriveRawKey_158 (lv_at hl 0 rfl) ?_
  refine lv_iconst (v := 0) hx hb dX2_deriveRawKey_160 (by decide) ?_
  refine cx_callv (wr := [aI cB aH 16 sb, aI cB aK n g, aI cI a4 4 z4, (h0, .inr (2, [.ref aS, .ref aP])), aI cI aS 1024 gS1, aI cI aP 18 gP2]) (va_runS (As := [.ref a16, .int 0]) (rest := []) ⟨hx, hb, hml, hown, hts⟩ (met_fill l dC dI cI cB a16 16 0 w16 (by decide) H.size) (va_cwS 2 hts (lw_S q216 q217 q18 q218) rfl rfl rfl (by decide +kernel) ⟨Nat.le_of_ble_eq_true rfl, Nat.le_of_ble_eq_true rfl⟩) (cx_preS hP hD hK [6] rfl (by decide) rfl (cx_No_b) (fun _ _ _ => trivial)) rfl rfl hl.1 rfl (lv_room (Nat.le_of_ble_eq_true rfl)) dX2_deriveRawKey_161 ⟨Nat.le_of_ble_eq_true rfl, Nat.le_of_ble_eq_true rfl⟩) hP hD hS hA [6] [0, 1, 2, 3, 4, 5] rfl rfl (by decide) (by decide) (fun z16 H locs _ hP hD hS => ?_)
  have hP : va_P (dC, dI) vwCl [aI cB aH 16 sb, aI cB aK n g, aI cI a4 4 z4, (h0, .inr (2, [.ref aS, .ref aP])), aI cI aS 1024 gS1, aI cI aP 18 gP2, aI cI a16 16 z16] H := hP
  have hD : va_D A [aI cB aH 16 sb, aI cB aK n g, aI cI a4 4 z4, (h0, .inr (2, [.ref aS, .ref aP])), aI cI aS 1024 gS1, aI cI aP 18 gP2, aI cI a16 16 z16] := hD
  refine lv_iconst (v := 1) hx hb dX2_deriveRawKey_164 (by decide) ?_
  refine lv_iload_n hx hb dX2_deriveRawKey_165 rfl (lv_at hl 3 rfl) ?_
  refine lv_ishl hx hb dX2_deriveRawKey_166 ?_
  refine cx_top (nI r) (hr2) ?_
  refine lv_istore (lv' := [(6, .int (nI r)), (5, .ref a16), (4, .ref a4), (0, .ref h0), (1, .int (nI cst)), (2, .ref aH), (3, .ref aK)]) hx hb dX2_deriveRawKey_167 hl (by decide) rfl (fun ls hl => ?_)
  refine lv_iconst (v := nI 0) hx hb dX2_deriveRawKey_169 (by decide) ?_
  refine lv_istore (lv' := [(7, .int (nI 0)), (6, .int (nI r)), (5, .ref a16), (4, .ref a4), (0, .ref h0), (1, .int (nI cst)), (2, .ref aH), (3, .ref aK)]) hx hb dX2_deriveRawKey_170 hl (by decide) rfl (fun ls hl => ?_)
  refine W.widen (k := 2) (n := 20) (by decide) (by decide) ?_
  clear hw0 hw1 A1
  have loop : ∀ (k i : Nat), i + k = r → ∀ (vP vS : Nat → Int32) (H : Heap) (locs : List Loc) (ls : Array Slot), bf_Ag vP vS (bf_rep (bf_kf (fun j => g j &&& 255) n) (bf_kf (fun j => sb j &&& 255) 16) i (bf_spr (bf_kf (fun j => g j &&& 255) n) (bf_ws (fun j => sb j &&& 255)) T)) → va_P (dC, dI) vwCl [(h0, .inr (2, [.ref aS, .ref aP])), aI cI aS 1024 vS, aI cI aP 18 vP, aI cB aK n g, aI cB aH 16 sb] H → va_D A [(h0, .inr (2, [.ref aS, .ref aP])), aI cI aS 1024 vS, aI cI aP 18 vP, aI cB aK n g, aI cB aH 16 sb] → va_S A s.heap H locs → lv_has ls 8 [(0, .ref h0), (2, .ref aH), (3, .ref aK), (6, .int (nI r)), (7, .int (nI i))] → W p l e (headSpec (ws_ yX2_deriveRawKey cX2_deriveRawKey 8 (some (.array .byte))) ({ frames := 3, cells := 4, slots := 50, locals := 71 } : Room)).room s m ([.ref h0, .int (nI cst), .ref aH, .ref aK] : List Value).toArray below meth c H locs 2 20 Q (F0 m 172 ls []) := by
    intro k
    induction k with
    | zero =>
      intro i hi vP vS H locs ls hv hP hD hS hl
      refine lv_iload hx hb dX2_deriveRawKey_172 (lv_at hl 4 rfl) ?_
      refine lv_iload hx hb dX2_deriveRawKey_174 (lv_at hl 3 rfl) ?_
      refine lv_icmp_eq (tgt := 259) hx hb dX2_deriveRawKey_176 (by decide) (fun _ => ?_) (fun c9 => absurd (congrArg nI (by omega)) c9)
      refine lv_aload_n hx hb dX2_deriveRawKey_259 rfl (lv_at hl 0 rfl) ?_
      refine cx_callr (wr := [aI cB aK n g, aI cB aH 16 sb]) (va_runV (As := []) (rest := []) ⟨hx, hb, hml, hown, hts⟩ (met_magic l dC dI cI cB h0 aS aP (bf_rep (bf_kf (fun j => g j &&& 255) n) (bf_kf (fun j => sb j &&& 255) 16) i (bf_spr (bf_kf (fun j => g j &&& 255) n) (bf_ws (fun j => sb j &&& 255)) T)) T M vP vS hv H.size) (cwV 0 hts (lw_V q226 q228 qs7 q13 q229) rfl rfl rfl (by decide +kernel) ⟨Nat.le_of_ble_eq_true rfl, Nat.le_of_ble_eq_true rfl⟩) (cx_preV (ci := 2) (q0 := 0) rfl rfl hP hD hK [0, 1, 2] rfl (by decide) rfl (cx_Bc_b) (fun U hU hW => hE.pass hS (va_free (wc := [(h0, .inr (2, [.ref aS, .ref aP])), aI cI aS 1024 vS, aI cI aP 18 vP]) hD hS hA [0, 1, 2] rfl) hU hW)) rfl rfl hl.1 rfl (lv_room (Nat.le_of_ble_eq_true rfl)) dX2_deriveRawKey_260 ⟨Nat.le_of_ble_eq_true rfl, Nat.le_of_ble_eq_true rfl⟩) hP hD hS hA [0, 1, 2] [3, 4] rfl rfl (by decide) (by decide) (fun u ra H locs hu hP hD hS => ?_)
      have hP : va_P (dC, dI) vwCl [aI cB aK n g, aI cB aH 16 sb, aI cB ra 24 u] H := hP
      have hD : va_D A [aI cB aK n g, aI cB aH 16 sb, aI cB ra 24 u] := hD
      subst hQe
      subst hAe
      exact W.aret (v := .ref ra) hx hb hr (Or.inr ⟨_, rfl⟩) (Or.inr ⟨_, rfl⟩) (fun t ht hW => ⟨⟨u, ra, rfl, fun j hj => by rw [hu j hj, show i = r by omega]; rfl, by rw [ht]; exact hP.sub [0, 1, 2] rfl, hD.sub [0, 1, 2] (by decide) rfl⟩, hS.F ht⟩) hS.2.2 dX2_deriveRawKey_263
    | succ k ih =>
      intro i hi vP vS H locs ls hv hP hD hS hl
      refine lv_iload hx hb dX2_deriveRawKey_172 (lv_at hl 4 rfl) ?_
      refine lv_iload hx hb dX2_deriveRawKey_174 (lv_at hl 3 rfl) ?_
      refine lv_icmp_eq (tgt := 259) hx hb dX2_deriveRawKey_176 (by decide) (fun c9 => absurd c9 (fun e9 => absurd ((nI_eq (by omega) (by omega)).mp e9) (by omega))) (fun _ => ?_)
      refine lv_aload_n hx hb dX2_deriveRawKey_179 rfl (lv_at hl 0 rfl) ?_
      refine lv_aload_n hx hb dX2_deriveRawKey_180 rfl (lv_at hl 2 rfl) ?_
      refine cx_callv (wr := [aI cI aS 1024 vS, aI cB aH 16 sb]) (va_runV (As := [.ref aK]) (rest := []) ⟨hx, hb, hml, hown, hts⟩ (met_cx l dC dI cI cB h0 aS aP aK n vP g hn hn2 H.size) (cwV 1 hts (lw_V q204 q206 qs3 q13 q207) rfl rfl rfl (by decide +kernel) ⟨Nat.le_of_ble_eq_true rfl, Nat.le_of_ble_eq_true rfl⟩) (cx_preV (ci := 2) (q0 := 0) rfl rfl hP hD hK [0, 2, 3] rfl (by decide) rfl (cx_No_b) (fun _ _ _ => trivial)) rfl rfl hl.1 rfl (lv_room (Nat.le_of_ble_eq_true rfl)) dX2_deriveRawKey_181 ⟨Nat.le_of_ble_eq_true rfl, Nat.le_of_ble_eq_true rfl⟩) hP hD hS hA [0, 2, 3] [1, 4] rfl rfl (by decide) (by decide) (fun p1a H locs k1a hP hD hS => ?_)
      have hP : va_P (dC, dI) vwCl [aI cI aS 1024 vS, aI cB aH 16 sb, (h0, .inr (2, [.ref aS, .ref aP])), aI cI aP 18 p1a, aI cB aK n g] H := hP
      have hD : va_D A [aI cI aS 1024 vS, aI cB aH 16 sb, (h0, .inr (2, [.ref aS, .ref aP])), aI cI aP 18 p1a, aI cB aK n g] := hD
      have B1a : bf_Ag p1a vS (bf_key (bf_kf (fun j => g j &&& 255) n) (bf_rep (bf_kf (fun j => g j &&& 255) n) (bf_kf (fun j => sb j &&& 255) 16) i (bf_spr (bf_kf (fun j => g j &&& 255) n) (bf_ws (fun j => sb j &&& 255)) T))) := hv.key k1a
      refine lv_aload_n hx hb dX2_deriveRawKey_184 rfl (lv_at hl 0 rfl) ?_
      refine lv_iconst (v := 0) hx hb dX2_deriveRawKey_185 (by decide) ?_
      refine lv_iconst (v := 0) hx hb dX2_deriveRawKey_186 (by decide) ?_
      refine lv_aload_n hx hb dX2_deriveRawKey_187 rfl (lv_at hl 0 rfl) ?_
      refine va_get (D := (dC, dI)) (ci := 2) (v := .ref aP) (C := RX2) (T := TX2) (N := 2) hx hb hts in_X2 hown hK hP 2 rfl rfl 1 (by decide) (hts _ q151) (fun _ h9 => h9) rfl dX2_deriveRawKey_188 ?_
      refine cx_callv (wr := [aI cB aH 16 sb, aI cB aK n g]) (va_runV (As := [.int 0, .int 0, .ref aP]) (rest := []) ⟨hx, hb, hml, hown, hts⟩ (met_ptP l dC dI cI cB h0 aS aP (bf_key (bf_kf (fun j => g j &&& 255) n) (bf_rep (bf_kf (fun j => g j &&& 255) n) (bf_kf (fun j => sb j &&& 255) 16) i (bf_spr (bf_kf (fun j => g j &&& 255) n) (bf_ws (fun j => sb j &&& 255)) T))) p1a vS 0 0 B1a H.size) (cwV 3 hts (lw_V q222 q224 qs6 q13 q225) rfl rfl rfl (by decide +kernel) ⟨Nat.le_of_ble_eq_true rfl, Nat.le_of_ble_eq_true rfl⟩) (cx_preV (ci := 2) (q0 := 2) rfl rfl hP hD hK [2, 0, 3] rfl (by decide) rfl (cx_No_b) (fun _ _ _ => trivial)) rfl rfl hl.1 rfl (lv_room (Nat.le_of_ble_eq_true rfl)) dX2_deriveRawKey_191 ⟨Nat.le_of_ble_eq_true rfl, Nat.le_of_ble_eq_true rfl⟩) hP hD hS hA [2, 0, 3] [1, 4] rfl rfl (by decide) (by decide) (fun p2a H locs B2a hP hD hS => ?_)
      have hP : va_P (dC, dI) vwCl [aI cB aH 16 sb, aI cB aK n g, (h0, .inr (2, [.ref aS, .ref aP])), aI cI aS 1024 vS, aI cI aP 18 p2a] H := hP
      have hD : va_D A [aI cB aH 16 sb, aI cB aK n g, (h0, .inr (2, [.ref aS, .ref aP])), aI cI aS 1024 vS, aI cI aP 18 p2a] := hD
      have B2a : bf_Ag p2a vS (bf_run bf_w0 0 9 (bf_key (bf_kf (fun j => g j &&& 255) n) (bf_rep (bf_kf (fun j => g j &&& 255) n) (bf_kf (fun j => sb j &&& 255) 16) i (bf_spr (bf_kf (fun j => g j &&& 255) n) (bf_ws (fun j => sb j &&& 255)) T)), 0, 0)).1 := B2a
      refine lv_aload_n hx hb dX2_deriveRawKey_194 rfl (lv_at hl 0 rfl) ?_
      refine lv_aload_n hx hb dX2_deriveRawKey_195 rfl (lv_at hl 0 rfl) ?_
      refine va_get (D := (dC, dI)) (ci := 2) (v := .ref aP) (C := RX2) (T := TX2) (N := 2) hx hb hts in_X2 hown hK hP 2 rfl rfl 1 (by decide) (hts _ q151) (fun _ h9 => h9) rfl dX2_deriveRawKey_196 ?_
      refine lv_bipush (v := 16) hx hb dX2_deriveRawKey_199 (by decide) ?_
      refine cx_iald hx hb hK hP 4 0 rfl rfl (16) (rfl) (by decide) (by decide) dX2_deriveRawKey_201 ?_
      refine lv_aload_n hx hb dX2_deriveRawKey_202 rfl (lv_at hl 0 rfl) ?_
      refine va_get (D := (dC, dI)) (ci := 2) (v := .ref aP) (C := RX2) (T := TX2) (N := 2) hx hb hts in_X2 hown hK hP 2 rfl rfl 1 (by decide) (hts _ q151) (fun _ h9 => h9) rfl dX2_deriveRawKey_203 ?_
      refine lv_bipush (v := 17) hx hb dX2_deriveRawKey_206 (by decide) ?_
      refine cx_iald hx hb hK hP 4 0 rfl rfl (17) (rfl) (by decide) (by decide) dX2_deriveRawKey_208 ?_
      refine lv_aload_n hx hb dX2_deriveRawKey_209 rfl (lv_at hl 0 rfl) ?_
      refine va_get (D := (dC, dI)) (ci := 2) (v := .ref aS) (C := RX2) (T := TX2) (N := 2) hx hb hts in_X2 hown hK hP 2 rfl rfl 0 (by decide) (hts _ q150) (fun _ h9 => h9) rfl dX2_deriveRawKey_210 ?_
      refine cx_callv (wr := [aI cB aH 16 sb, aI cB aK n g]) (va_runV (As := [.int (p2a 16), .int (p2a 17), .ref aS]) (rest := []) ⟨hx, hb, hml, hown, hts⟩ (met_ptS l dC dI cI cB h0 aS aP (bf_run bf_w0 0 9 (bf_key (bf_kf (fun j => g j &&& 255) n) (bf_rep (bf_kf (fun j => g j &&& 255) n) (bf_kf (fun j => sb j &&& 255) 16) i (bf_spr (bf_kf (fun j => g j &&& 255) n) (bf_ws (fun j => sb j &&& 255)) T)), 0, 0)).1 p2a vS (p2a 16) (p2a 17) B2a H.size) (cwV 3 hts (lw_V q222 q224 qs6 q13 q225) rfl rfl rfl (by decide +kernel) ⟨Nat.le_of_ble_eq_true rfl, Nat.le_of_ble_eq_true rfl⟩) (cx_preV (ci := 2) (q0 := 2) rfl rfl hP hD hK [2, 3, 4] rfl (by decide) rfl (cx_No_b) (fun _ _ _ => trivial)) rfl rfl hl.1 rfl (lv_room (Nat.le_of_ble_eq_true rfl)) dX2_deriveRawKey_213 ⟨Nat.le_of_ble_eq_true rfl, Nat.le_of_ble_eq_true rfl⟩) hP hD hS hA [2, 3, 4] [0, 1] rfl rfl (by decide) (by decide) (fun s1a H locs k3a hP hD hS => ?_)
      have hP : va_P (dC, dI) vwCl [aI cB aH 16 sb, aI cB aK n g, (h0, .inr (2, [.ref aS, .ref aP])), aI cI aS 1024 s1a, aI cI aP 18 p2a] H := hP
      have hD : va_D A [aI cB aH 16 sb, aI cB aK n g, (h0, .inr (2, [.ref aS, .ref aP])), aI cI aS 1024 s1a, aI cI aP 18 p2a] := hD
      have B3a : bf_Ag p2a s1a (bf_spr (bf_kf (fun j => g j &&& 255) n) bf_w0 (bf_rep (bf_kf (fun j => g j &&& 255) n) (bf_kf (fun j => sb j &&& 255) 16) i (bf_spr (bf_kf (fun j => g j &&& 255) n) (bf_ws (fun j => sb j &&& 255)) T))) := bf_spr_of B2a k3a
      refine lv_aload_n hx hb dX2_deriveRawKey_216 rfl (lv_at hl 0 rfl) ?_
      refine lv_aload_n hx hb dX2_deriveRawKey_217 rfl (lv_at hl 1 rfl) ?_
      refine cx_callv (wr := [aI cB aK n g, aI cI aS 1024 s1a]) (va_runV (As := [.ref aH]) (rest := []) ⟨hx, hb, hml, hown, hts⟩ (met_cx l dC dI cI cB h0 aS aP aH 16 p2a sb (by decide) (by decide) H.size) (cwV 1 hts (lw_V q204 q206 qs3 q13 q207) rfl rfl rfl (by decide +kernel) ⟨Nat.le_of_ble_eq_true rfl, Nat.le_of_ble_eq_true rfl⟩) (cx_preV (ci := 2) (q0 := 2) rfl rfl hP hD hK [2, 4, 0] rfl (by decide) rfl (cx_No_b) (fun _ _ _ => trivial)) rfl rfl hl.1 rfl (lv_room (Nat.le_of_ble_eq_true rfl)) dX2_deriveRawKey_218 ⟨Nat.le_of_ble_eq_true rfl, Nat.le_of_ble_eq_true rfl⟩) hP hD hS hA [2, 4, 0] [1, 3] rfl rfl (by decide) (by decide) (fun p1b H locs k1b hP hD hS => ?_)
      have hP : va_P (dC, dI) vwCl [aI cB aK n g, aI cI aS 1024 s1a, (h0, .inr (2, [.ref aS, .ref aP])), aI cI aP 18 p1b, aI cB aH 16 sb] H := hP
      have hD : va_D A [aI cB aK n g, aI cI aS 1024 s1a, (h0, .inr (2, [.ref aS, .ref aP])), aI cI aP 18 p1b, aI cB aH 16 sb] := hD
      have B1b : bf_Ag p1b s1a (bf_key (bf_kf (fun j => sb j &&& 255) 16) (bf_spr (bf_kf (fun j => g j &&& 255) n) bf_w0 (bf_rep (bf_kf (fun j => g j &&& 255) n) (bf_kf (fun j => sb j &&& 255) 16) i (bf_spr (bf_kf (fun j => g j &&& 255) n) (bf_ws (fun j => sb j &&& 255)) T)))) := B3a.key k1b
      refine lv_aload_n hx hb dX2_deriveRawKey_221 rfl (lv_at hl 0 rfl) ?_
      refine lv_iconst (v := 0) hx hb dX2_deriveRawKey_222 (by decide) ?_
      refine lv_iconst (v := 0) hx hb dX2_deriveRawKey_223 (by decide) ?_
      refine lv_aload_n hx hb dX2_deriveRawKey_224 rfl (lv_at hl 0 rfl) ?_
      refine va_get (D := (dC, dI)) (ci := 2) (v := .ref aP) (C := RX2) (T := TX2) (N := 2) hx hb hts in_X2 hown hK hP 2 rfl rfl 1 (by decide) (hts _ q151) (fun _ h9 => h9) rfl dX2_deriveRawKey_225 ?_
      refine cx_callv (wr := [aI cB aK n g, aI cB aH 16 sb]) (va_runV (As := [.int 0, .int 0, .ref aP]) (rest := []) ⟨hx, hb, hml, hown, hts⟩ (met_ptP l dC dI cI cB h0 aS aP (bf_key (bf_kf (fun j => sb j &&& 255) 16) (bf_spr (bf_kf (fun j => g j &&& 255) n) bf_w0 (bf_rep (bf_kf (fun j => g j &&& 255) n) (bf_kf (fun j => sb j &&& 255) 16) i (bf_spr (bf_kf (fun j => g j &&& 255) n) (bf_ws (fun j => sb j &&& 255)) T)))) p1b s1a 0 0 B1b H.size) (cwV 3 hts (lw_V q222 q224 qs6 q13 q225) rfl rfl rfl (by decide +kernel) ⟨Nat.le_of_ble_eq_true rfl, Nat.le_of_ble_eq_true rfl⟩) (cx_preV (ci := 2) (q0 := 2) rfl rfl hP hD hK [2, 1, 3] rfl (by decide) rfl (cx_No_b) (fun _ _ _ => trivial)) rfl rfl hl.1 rfl (lv_room (Nat.le_of_ble_eq_true rfl)) dX2_deriveRawKey_228 ⟨Nat.le_of_ble_eq_true rfl, Nat.le_of_ble_eq_true rfl⟩) hP hD hS hA [2, 1, 3] [0, 4] rfl rfl (by decide) (by decide) (fun p2b H locs B2b hP hD hS => ?_)
      have hP : va_P (dC, dI) vwCl [aI cB aK n g, aI cB aH 16 sb, (h0, .inr (2, [.ref aS, .ref aP])), aI cI aS 1024 s1a, aI cI aP 18 p2b] H := hP
      have hD : va_D A [aI cB aK n g, aI cB aH 16 sb, (h0, .inr (2, [.ref aS, .ref aP])), aI cI aS 1024 s1a, aI cI aP 18 p2b] := hD
      have B2b : bf_Ag p2b s1a (bf_run bf_w0 0 9 (bf_key (bf_kf (fun j => sb j &&& 255) 16) (bf_spr (bf_kf (fun j => g j &&& 255) n) bf_w0 (bf_rep (bf_kf (fun j => g j &&& 255) n) (bf_kf (fun j => sb j &&& 255) 16) i (bf_spr (bf_kf (fun j => g j &&& 255) n) (bf_ws (fun j => sb j &&& 255)) T))), 0, 0)).1 := B2b
      refine lv_aload_n hx hb dX2_deriveRawKey_231 rfl (lv_at hl 0 rfl) ?_
      refine lv_aload_n hx hb dX2_deriveRawKey_232 rfl (lv_at hl 0 rfl) ?_
      refine va_get (D := (dC, dI)) (ci := 2) (v := .ref aP) (C := RX2) (T := TX2) (N := 2) hx hb hts in_X2 hown hK hP 2 rfl rfl 1 (by decide) (hts _ q151) (fun _ h9 => h9) rfl dX2_deriveRawKey_233 ?_
      refine lv_bipush (v := 16) hx hb dX2_deriveRawKey_236 (by decide) ?_
      refine cx_iald hx hb hK hP 4 0 rfl rfl (16) (rfl) (by decide) (by decide) dX2_deriveRawKey_238 ?_
      refine lv_aload_n hx hb dX2_deriveRawKey_239 rfl (lv_at hl 0 rfl) ?_
      refine va_get (D := (dC, dI)) (ci := 2) (v := .ref aP) (C := RX2) (T := TX2) (N := 2) hx hb hts in_X2 hown hK hP 2 rfl rfl 1 (by decide) (hts _ q151) (fun _ h9 => h9) rfl dX2_deriveRawKey_240 ?_
      refine lv_bipush (v := 17) hx hb dX2_deriveRawKey_243 (by decide) ?_
      refine cx_iald hx hb hK hP 4 0 rfl rfl (17) (rfl) (by decide) (by decide) dX2_deriveRawKey_245 ?_
      refine lv_aload_n hx hb dX2_deriveRawKey_246 rfl (lv_at hl 0 rfl) ?_
      refine va_get (D := (dC, dI)) (ci := 2) (v := .ref aS) (C := RX2) (T := TX2) (N := 2) hx hb hts in_X2 hown hK hP 2 rfl rfl 0 (by decide) (hts _ q150) (fun _ h9 => h9) rfl dX2_deriveRawKey_247 ?_
      refine cx_callv (wr := [aI cB aK n g, aI cB aH 16 sb]) (va_runV (As := [.int (p2b 16), .int (p2b 17), .ref aS]) (rest := []) ⟨hx, hb, hml, hown, hts⟩ (met_ptS l dC dI cI cB h0 aS aP (bf_run bf_w0 0 9 (bf_key (bf_kf (fun j => sb j &&& 255) 16) (bf_spr (bf_kf (fun j => g j &&& 255) n) bf_w0 (bf_rep (bf_kf (fun j => g j &&& 255) n) (bf_kf (fun j => sb j &&& 255) 16) i (bf_spr (bf_kf (fun j => g j &&& 255) n) (bf_ws (fun j => sb j &&& 255)) T))), 0, 0)).1 p2b s1a (p2b 16) (p2b 17) B2b H.size) (cwV 3 hts (lw_V q222 q224 qs6 q13 q225) rfl rfl rfl (by decide +kernel) ⟨Nat.le_of_ble_eq_true rfl, Nat.le_of_ble_eq_true rfl⟩) (cx_preV (ci := 2) (q0 := 2) rfl rfl hP hD hK [2, 3, 4] rfl (by decide) rfl (cx_No_b) (fun _ _ _ => trivial)) rfl rfl hl.1 rfl (lv_room (Nat.le_of_ble_eq_true rfl)) dX2_deriveRawKey_250 ⟨Nat.le_of_ble_eq_true rfl, Nat.le_of_ble_eq_true rfl⟩) hP hD hS hA [2, 3, 4] [0, 1] rfl rfl (by decide) (by decide) (fun s1b H locs k3b hP hD hS => ?_)
      have hP : va_P (dC, dI) vwCl [aI cB aK n g, aI cB aH 16 sb, (h0, .inr (2, [.ref aS, .ref aP])), aI cI aS 1024 s1b, aI cI aP 18 p2b] H := hP
      have hD : va_D A [aI cB aK n g, aI cB aH 16 sb, (h0, .inr (2, [.ref aS, .ref aP])), aI cI aS 1024 s1b, aI cI aP 18 p2b] := hD
      have B3b : bf_Ag p2b s1b (bf_spr (bf_kf (fun j => sb j &&& 255) 16) bf_w0 (bf_spr (bf_kf (fun j => g j &&& 255) n) bf_w0 (bf_rep (bf_kf (fun j => g j &&& 255) n) (bf_kf (fun j => sb j &&& 255) 16) i (bf_spr (bf_kf (fun j => g j &&& 255) n) (bf_ws (fun j => sb j &&& 255)) T)))) := bf_spr_of B2b k3b
      refine lv_iinc (v := nI (i + 1)) (lv' := [(7, .int (nI (i + 1))), (0, .ref h0), (2, .ref aH), (3, .ref aK), (6, .int (nI r))]) hx hb dX2_deriveRawKey_253 hl (k := 4) rfl (nI_1 i) (by decide) rfl (fun ls hl => ?_)
      refine lv_goto (tgt := 172) hx hb dX2_deriveRawKey_256 (by decide) ?_
      exact ih (i + 1) (by omega) p2b s1b H locs ls B3b (hP.sub [2, 3, 4, 0, 1] rfl) (hD.sub [2, 3, 4, 0, 1] (by decide) rfl) hS (lv_sub hl [1, 2, 3, 4, 0] rfl)
  exact loop r 0 (by omega) gP2 gS1 H locs ls A3 (hP.sub [3, 4, 5, 1, 0] rfl) (hD.sub [3, 4, 5, 1, 0] (by decide) rfl) hS (lv_sub hl [4, 6, 7, 1, 0] rfl)
set_option maxHeartbeats 4000000 in
set_option maxRecDepth 100000 in
/-- BCrypt.generate -/
theorem met_gen (l : Launch) (dC : Nat → ClassId) (dI : Nat → Nat → Nat) (cI cB : ClassId) (aK aH n cst r : Nat) (T M g sb : Nat → Int32) (hn : 0 < n) (hn2 : n ≤ 72) (hc4 : 4 ≤ cst) (hc31 : cst ≤ 31) (hr2 : (1 : Int32) <<< (nI cst &&& 31) = nI r) (hr3 : r < 2 ^ 30) (sz : Nat) : Met l yX2_generate (ws_ yX2_generate cX2_generate 5 (some (.array .byte))) ({ frames := 4, cells := 7, slots := 1094, locals := 98 } : Room) (cx_Pre (dC, dI) (tyL cI cB) [.ref aK, .ref aH, .int (nI cst), .int 0] [aI cB aK n g, aI cB aH 16 sb] sz (cx_Bc T M (va_A [aI cB aK n g, aI cB aH 16 sb] sz))) (cx_Qr (S := Nat → Int32) (dC, dI) [aI cB aK n g, aI cB aH 16 sb] sz (fun u => ∀ j, j < 24 → u j &&& 255 = bf_by (bf_out (bf_fin (fun j => g j &&& 255) n (fun j => sb j &&& 255) r T) M (j / 4)) (j % 4)) (fun u ra => [aI cB aK n g, aI cB aH 16 sb, aI cB ra 24 u])) 7 1094 (va_A [aI cB aK n g, aI cB aH 16 sb] sz) := by
  refine Met.ofW (cc := cX2_generate) (maxL := 5) (ret := (some (.array .byte))) (by decide) rfl ?_
  intro p e s m args below meth c s₁ B hml hv
  obtain ⟨rfl, hsz, hP, hK, hD0, hE⟩ := hv
  have hx := B.exec
  have hb := B.bytes
  have hr := B.returns
  have hts := atoms_spec (ws := (ws_ yX2_generate cX2_generate 5 (some (.array .byte)))) B.pre
  have hts : ∀ w ∈ lw_all, w.before _ s = true := fun w h => hts w (List.mem_cons_of_mem _ h)
  have hown : s.vm.findClass RX2 = some m.cls := findClass_of_methodNamed B.named
  have hlocks := B.notSynchronized
  subst hsz
  obtain ⟨A, hAe⟩ : ∃ A : Nat → Prop, A = va_A [aI cB aK n g, aI cB aH 16 sb] s.heap.size := ⟨_, rfl⟩
  have hD : va_D A [aI cB aK n g, aI cB aH 16 sb] := by rw [hAe]; exact hD0.self
  rw [← hAe] at hE
  have hA : ∀ q : Nat, s.heap.size ≤ q → A q := fun q h => by rw [hAe]; exact Or.inr h
  have hS : va_S A s.heap s.heap [] := va_S.rf
  refine cx_Q (fun Q hQe => ?_)
  have hP : va_P (dC, dI) vwCl [aI cB aK n g, aI cB aH 16 sb] s.heap := hP
  have hl := lv_entry ([.ref aK, .ref aH, .int (nI cst), .int 0]) (n := 5) (Nat.le_of_ble_eq_true rfl)
  rw [lg_entry_eq]
  generalize (lg_sl ([.ref aK, .ref aH, .int (nI cst), .int 0]) ++ List.replicate (5 - (lg_sl ([.ref aK, .ref aH, .int (nI cst), .int 0])).length) Slot.unset).toArray = ls at hl ⊢
  have hl : lv_has ls 5 [(0, .ref aK), (1, .ref aH), (2, .int (nI cst)), (3, .int 0)] := hl
  refine lv_aload_n hx hb dX2_generate_0 rfl (lv_at hl 0 rfl) ?_
  refine lv_ifnull hx hb dX2_generate_1 ?_
  refine lv_aload_n hx hb dX2_generate_4 rfl (lv_at hl 1 rfl) ?_
  refine lv_ifnonnull (tgt := 18) hx hb dX2_generate_5 (by decide) ?_
  refine lv_aload_n hx hb dX2_generate_18 rfl (lv_at hl 1 rfl) ?_
  refine va_alen (v := nI 16) hx hb hK hP 1 1 rfl rfl rfl dX2_generate_19 ?_
  refine lv_bipush (v := nI 16) hx hb dX2_generate_20 (by decide) ?_
  refine lv_icmp_eq (tgt := 35) hx hb dX2_generate_22 (by decide) (fun _ => ?_) (fun c9 => absurd (rfl) c9)
  refine lv_aload_n hx hb dX2_generate_35 rfl (lv_at hl 0 rfl) ?_
  refine va_alen (v := nI n) hx hb hK hP 0 1 rfl rfl rfl dX2_generate_36 ?_
  refine lv_bipush (v := nI 72) hx hb dX2_generate_37 (by decide) ?_
  refine lv_icmp_le (tgt := 52) hx hb dX2_generate_39 (by decide) (fun _ => ?_) (fun c9 => absurd (nI_le (by omega) (by omega)) c9)
  refine lv_iload_n hx hb dX2_generate_52 rfl (lv_at hl 2 rfl) ?_
  refine lv_iconst (v := nI 4) hx hb dX2_generate_53 (by decide) ?_
  refine lv_icmp_lt (tgt := 63) hx hb dX2_generate_54 (by decide) (fun c9 => absurd c9 (nI_nlt (by omega) (by omega))) (fun _ => ?_)
  refine lv_iload_n hx hb dX2_generate_57 rfl (lv_at hl 2 rfl) ?_
  refine lv_bipush (v := nI 31) hx hb dX2_generate_58 (by decide) ?_
  refine lv_icmp_le (tgt := 73) hx hb dX2_generate_60 (by decide) (fun _ => ?_) (fun c9 => absurd (nI_le (by omega) (by omega)) c9)
  refine lv_aload_n hx hb dX2_generate_73 rfl (lv_at hl 0 rfl) ?_
  refine lv_astore (lv' := [(4, .ref aK), (0, .ref aK), (1, .ref aH), (2, .int (nI cst)), (3, .int 0)]) hx hb dX2_generate_74 hl (by decide) rfl (fun ls hl => ?_)
  refine lv_iload_n hx hb dX2_generate_76 rfl (lv_at hl 4 rfl) ?_
  refine lv_if_eq (tgt := 94) hx hb dX2_generate_77 (by decide) (fun _ => ?_) (fun c9 => absurd (rfl) c9)
  refine va_new (ci := 2) (fs := [.null, .null]) (C := RX2) (T := TX2) (N := 2) hx hb hts in_X2 tyX2 tyX2_ok hown (hts _ q144) (hts _ q145) (hts _ q13) hK hP hD hS hA rfl (fun j hj => by rcases (show j = 0 ∨ j = 1 by omega) with rfl | rfl <;> rfl) (by decide) (by decide) dX2_generate_94 (fun h0 H hP hD hS => ?_)
  have hP : va_P (dC, dI) vwCl [aI cB aK n g, aI cB aH 16 sb, (h0, .inr (2, [.null, .null]))] H := hP
  have hD : va_D A [aI cB aK n g, aI cB aH 16 sb, (h0, .inr (2, [.null, .null]))] := hD
  refine lv_dup hx hb dX2_generate_97 rfl ?_
  refine cx_callv (wr := [aI cB aK n g, aI cB aH 16 sb]) (va_runI (As := []) (rest := [.ref h0]) ⟨hx, hb, hml, hown, hts⟩ (met_binit l dC dI cI cB h0 H.size) (cwI 0 hts (lw_meth q148) rfl rfl rfl (hts _ q13) (hts _ q146) (hts _ q147) rfl (by decide +kernel) ⟨Nat.le_of_ble_eq_true rfl, Nat.le_of_ble_eq_true rfl⟩) (cx_preS hP hD hK [2] rfl (by decide) rfl (cx_No_b) (fun _ _ _ => trivial)) rfl rfl hl.1 rfl (lv_room (Nat.le_of_ble_eq_true rfl)) dX2_generate_98 ⟨Nat.le_of_ble_eq_true rfl, Nat.le_of_ble_eq_true rfl⟩) hP hD hS hA [2] [0, 1] rfl rfl (by decide) (by decide) (fun u0 H locs _ hP hD hS => ?_)
  obtain ⟨aS, aP⟩ := u0
  have hP : va_P (dC, dI) vwCl [aI cB aK n g, aI cB aH 16 sb, (h0, .inr (2, [.ref aS, .ref aP])), aI cI aS 1024 (fun _ => 0), aI cI aP 18 (fun _ => 0)] H := hP
  have hD : va_D A [aI cB aK n g, aI cB aH 16 sb, (h0, .inr (2, [.ref aS, .ref aP])), aI cI aS 1024 (fun _ => 0), aI cI aP 18 (fun _ => 0)] := hD
  refine lv_iload_n hx hb dX2_generate_101 rfl (lv_at hl 3 rfl) ?_
  refine lv_aload_n hx hb dX2_generate_102 rfl (lv_at hl 2 rfl) ?_
  refine lv_aload hx hb dX2_generate_103 (lv_at hl 0 rfl) ?_
  refine cx_callr (wr := []) (va_runV (As := [.int (nI cst), .ref aH, .ref aK]) (rest := []) ⟨hx, hb, hml, hown, hts⟩ (met_derive l dC dI cI cB h0 aS aP aK aH n cst r T M (fun _ => 0) (fun _ => 0) g sb hn (by omega) hc4 hc31 hr2 hr3 H.size) (cwV 3 hts (lw_V q158 q160 qs1 q13 q161) rfl rfl rfl (by decide +kernel) ⟨Nat.le_of_ble_eq_true rfl, Nat.le_of_ble_eq_true rfl⟩) (cx_preV (ci := 2) (q0 := 2) rfl rfl hP hD hK [2, 3, 4, 0, 1] rfl (by decide) rfl (cx_Bc_b) (fun U hU hW => hE.pass hS (va_free (wc := [(h0, .inr (2, [.ref aS, .ref aP])), aI cI aS 1024 (fun _ => 0), aI cI aP 18 (fun _ => 0), aI cB aK n g, aI cB aH 16 sb]) hD hS hA [2, 3, 4, 0, 1] rfl) hU hW)) rfl rfl hl.1 rfl (lv_room (Nat.le_of_ble_eq_true rfl)) dX2_generate_105 ⟨Nat.le_of_ble_eq_true rfl, Nat.le_of_ble_eq_true rfl⟩) hP hD hS hA [2, 3, 4, 0, 1] [] rfl rfl (by decide) (by decide) (fun u ra H locs hu hP hD hS => ?_)
  have hP : va_P (dC, dI) vwCl [aI cB aK n g, aI cB aH 16 sb, aI cB ra 24 u] H := hP
  have hD : va_D A [aI cB aK n g, aI cB aH 16 sb, aI cB ra 24 u] := hD
  refine W.widen (k := 7) (n := 1094) (by decide) (by decide) ?_
  subst hQe
  subst hAe
  exact W.aret (v := .ref ra) hx hb hr (Or.inr ⟨_, rfl⟩) (Or.inr ⟨_, rfl⟩) (fun t ht hW => ⟨⟨u, ra, rfl, hu, by rw [ht]; exact hP.sub [0, 1, 2] rfl, hD.sub [0, 1, 2] (by decide) rfl⟩, hS.F ht⟩) hS.2.2 dX2_generate_108
end
section
/-! CryptDesk -/
set_option maxHeartbeats 4000000 in
set_option maxRecDepth 100000 in
/-- CryptDesk() -/
theorem met_dinit (l : Launch) (dC : Nat → ClassId) (dI : Nat → Nat → Nat) (cI cB : ClassId) (h0 : Nat) (sz : Nat) : Met l yX0_init (ws_ yX0_init cX0_init 1 none) ({ frames := 1, cells := 3, slots := 112, locals := 12 } : Room) (cx_Pre (dC, dI) (tyL cI cB) [.ref h0] [(h0, .inr (0, [.null, .int 0, .null, .null]))] sz cx_No) (cx_Qv (S := Nat × Nat × Nat) (dC, dI) [(h0, .inr (0, [.null, .int 0, .null, .null]))] sz (fun u => True) (fun u => [oDesk h0 u.1 (nI 1) u.2.1 u.2.2, aI cB u.1 72 (fun _ => 0), aI cB u.2.1 16 (fun _ => 0), aI cB u.2.2 24 (fun _ => 0)])) 3 112 (va_A [(h0, .inr (0, [.null, .int 0, .null, .null]))] sz) := by
  refine Met.ofW (cc := cX0_init) (maxL := 1) (ret := none) (by decide) rfl ?_
  intro p e s m args below meth c s₁ B hml hv
  obtain ⟨rfl, hsz, hP, hK, hD0, hE⟩ := hv
  have hx := B.exec
  have hb := B.bytes
  have hr := B.returns
  have hts := atoms_spec (ws := (ws_ yX0_init cX0_init 1 none)) B.pre
  have hts : ∀ w ∈ lw_all, w.before _ s = true := fun w h => hts w (List.mem_cons_of_mem _ h)
  have hown : s.vm.findClass RX0 = some m.cls := findClass_of_methodNamed B.named
  have hlocks := B.notSynchronized
  have hin : meth.name = "<init>" := (name_of_methodNamed B.named B.method).1
  subst hsz
  obtain ⟨A, hAe⟩ : ∃ A : Nat → Prop, A = va_A [(h0, .inr (0, [.null, .int 0, .null, .null]))] s.heap.size := ⟨_, rfl⟩
  have hD : va_D A [(h0, .inr (0, [.null, .int 0, .null, .null]))] := by rw [hAe]; exact hD0.self
  have hA : ∀ q : Nat, s.heap.size ≤ q → A q := fun q h => by rw [hAe]; exact Or.inr h
  have hS : va_S A s.heap s.heap [] := va_S.rf
  refine cx_Q (fun Q hQe => ?_)
  have hP : va_P (dC, dI) vwCl [(h0, .inr (0, [.null, .int 0, .null, .null]))] s.heap := hP
  have hl := lv_entry ([.ref h0]) (n := 1) (Nat.le_of_ble_eq_true rfl)
  rw [lg_entry_eq]
  generalize (lg_sl ([.ref h0]) ++ List.replicate (1 - (lg_sl ([.ref h0])).length) Slot.unset).toArray = ls at hl ⊢
  have hl : lv_has ls 1 [(0, .ref h0)] := hl
  refine lv_aload_n hx hb dX0_init_0 rfl (lv_at hl 0 rfl) ?_
  refine W.objInit hx hb hown (hts _ q29) (hts _ q30) (hts _ q31) rfl (by rw [hml]; exact hl.1) rfl dX0_init_1 (Nat.le_of_ble_eq_true rfl) (Nat.le_of_ble_eq_true rfl) ?_
  refine W.eq (g2 := F0 m 4 ls []) rfl ?_
  refine lv_aload_n hx hb dX0_init_4 rfl (lv_at hl 0 rfl) ?_
  refine lv_bipush (v := 72) hx hb dX0_init_5 (by decide) ?_
  refine cx_newB hx hb (hts _ q45) hK hP hD hS hA (72) (rfl) (by decide) (by decide) (by decide) dX0_init_7 (fun aw H hP hD hS => ?_)
  have hP : va_P (dC, dI) vwCl [(h0, .inr (0, [.null, .int 0, .null, .null])), aI cB aw 72 (fun _ => 0)] H := hP
  have hD : va_D A [(h0, .inr (0, [.null, .int 0, .null, .null])), aI cB aw 72 (fun _ => 0)] := hD
  refine va_putF (D := (dC, dI)) (ci := 0) (v := .ref aw) (ty := (.array .byte)) (C := RX0) (T := TX0) (N := 4) hx hb hts in_X0 tyX0 tyX0_ok nmX0 hown hK hP hD hS 0 rfl rfl 0 (by decide) (hts _ q32) (fun _ h9 => h9) rfl hin rfl (by decide +kernel) rfl rfl (Nat.le_of_ble_eq_true rfl) dX0_init_9 (fun H locs hP hD hS => ?_)
  have hP : va_P (dC, dI) vwCl [(h0, .inr (0, [.ref aw, .int 0, .null, .null])), aI cB aw 72 (fun _ => 0)] H := hP
  have hD : va_D A [(h0, .inr (0, [.ref aw, .int 0, .null, .null])), aI cB aw 72 (fun _ => 0)] := hD
  refine lv_aload_n hx hb dX0_init_12 rfl (lv_at hl 0 rfl) ?_
  refine lv_iconst (v := nI 1) hx hb dX0_init_13 (by decide) ?_
  refine va_put (D := (dC, dI)) (ci := 0) (v := .int (nI 1)) (ty := .int) (C := RX0) (T := TX0) (N := 4) hx hb hts in_X0 tyX0 tyX0_ok nmX0 hown hK hP hD hS 0 rfl rfl 1 (by decide) (hts _ q33) (fun _ h9 => h9) rfl (by decide +kernel) rfl rfl (Nat.le_of_ble_eq_true rfl) dX0_init_14 (fun H locs hP hD hS => ?_)
  have hP : va_P (dC, dI) vwCl [(h0, .inr (0, [.ref aw, .int (nI 1), .null, .null])), aI cB aw 72 (fun _ => 0)] H := hP
  have hD : va_D A [(h0, .inr (0, [.ref aw, .int (nI 1), .null, .null])), aI cB aw 72 (fun _ => 0)] := hD
  refine lv_aload_n hx hb dX0_init_17 rfl (lv_at hl 0 rfl) ?_
  refine lv_bipush (v := 16) hx hb dX0_init_18 (by decide) ?_
  refine cx_newB hx hb (hts _ q45) hK hP hD hS hA (16) (rfl) (by decide) (by decide) (by decide) dX0_init_20 (fun as_ H hP hD hS => ?_)
  have hP : va_P (dC, dI) vwCl [(h0, .inr (0, [.ref aw, .int (nI 1), .null, .null])), aI cB aw 72 (fun _ => 0), aI cB as_ 16 (fun _ => 0)] H := hP
  have hD : va_D A [(h0, .inr (0, [.ref aw, .int (nI 1), .null, .null])), aI cB aw 72 (fun _ => 0), aI cB as_ 16 (fun _ => 0)] := hD
  refine va_putF (D := (dC, dI)) (ci := 0) (v := .ref as_) (ty := (.array .byte)) (C := RX0) (T := TX0) (N := 4) hx hb hts in_X0 tyX0 tyX0_ok nmX0 hown hK hP hD hS 0 rfl rfl 2 (by decide) (hts _ q34) (fun _ h9 => h9) rfl hin rfl (by decide +kernel) rfl rfl (Nat.le_of_ble_eq_true rfl) dX0_init_22 (fun H locs hP hD hS => ?_)
  have hP : va_P (dC, dI) vwCl [(h0, .inr (0, [.ref aw, .int (nI 1), .ref as_, .null])), aI cB aw 72 (fun _ => 0), aI cB as_ 16 (fun _ => 0)] H := hP
  have hD : va_D A [(h0, .inr (0, [.ref aw, .int (nI 1), .ref as_, .null])), aI cB aw 72 (fun _ => 0), aI cB as_ 16 (fun _ => 0)] := hD
  refine lv_aload_n hx hb dX0_init_25 rfl (lv_at hl 0 rfl) ?_
  refine lv_bipush (v := 24) hx hb dX0_init_26 (by decide) ?_
  refine cx_newB hx hb (hts _ q45) hK hP hD hS hA (24) (rfl) (by decide) (by decide) (by decide) dX0_init_28 (fun ao H hP hD hS => ?_)
  have hP : va_P (dC, dI) vwCl [(h0, .inr (0, [.ref aw, .int (nI 1), .ref as_, .null])), aI cB aw 72 (fun _ => 0), aI cB as_ 16 (fun _ => 0), aI cB ao 24 (fun _ => 0)] H := hP
  have hD : va_D A [(h0, .inr (0, [.ref aw, .int (nI 1), .ref as_, .null])), aI cB aw 72 (fun _ => 0), aI cB as_ 16 (fun _ => 0), aI cB ao 24 (fun _ => 0)] := hD
  refine va_put (D := (dC, dI)) (ci := 0) (v := .ref ao) (ty := (.array .byte)) (C := RX0) (T := TX0) (N := 4) hx hb hts in_X0 tyX0 tyX0_ok nmX0 hown hK hP hD hS 0 rfl rfl 3 (by decide) (hts _ q35) (fun _ h9 => h9) rfl (by decide +kernel) rfl rfl (Nat.le_of_ble_eq_true rfl) dX0_init_30 (fun H locs hP hD hS => ?_)
  have hP : va_P (dC, dI) vwCl [(h0, .inr (0, [.ref aw, .int (nI 1), .ref as_, .ref ao])), aI cB aw 72 (fun _ => 0), aI cB as_ 16 (fun _ => 0), aI cB ao 24 (fun _ => 0)] H := hP
  have hD : va_D A [(h0, .inr (0, [.ref aw, .int (nI 1), .ref as_, .ref ao])), aI cB aw 72 (fun _ => 0), aI cB as_ 16 (fun _ => 0), aI cB ao 24 (fun _ => 0)] := hD
  refine W.widen (k := 3) (n := 112) (by decide) (by decide) ?_
  subst hQe
  subst hAe
  exact W.vret hx hb hr (fun t ht hW => ⟨⟨(aw, as_, ao), rfl, trivial, by rw [ht]; exact hP.sub [0, 1, 2, 3] rfl, hD.sub [0, 1, 2, 3] (by decide) rfl⟩, hS.F ht⟩) hS.2.2 dX0_init_33
set_option maxHeartbeats 4000000 in
set_option maxRecDepth 100000 in
/-- CryptDesk.word -/
theorem met_dword (l : Launch) (dC : Nat → ClassId) (dI : Nat → Nat → Nat) (cI cB : ClassId) (h0 aw as_ ao z : Nat) (fw fs fo : Nat → Int32) (x a b c0 : Int32) (sz : Nat) : Met l yX0_word (ws_ yX0_word cX0_word 6 none) ({ frames := 1, cells := 0, slots := 0, locals := 22 } : Room) (cx_Pre (dC, dI) (tyL cI cB) [.ref h0, .int x, .int a, .int b, .int c0] [(h0, .inr (0, [.ref aw, .int (nI z), .ref as_, .ref ao])), aI cB aw 72 fw, aI cB as_ 16 fs, aI cB ao 24 fo] sz cx_No) (cx_Qv (S := Nat → Int32) (dC, dI) [(h0, .inr (0, [.ref aw, .int (nI z), .ref as_, .ref ao])), aI cB aw 72 fw, aI cB as_ 16 fs, aI cB ao 24 fo] sz (fun u => bf_ld3 a b c0 (12 * bf_md x 6) fw u) (fun u => [oDesk h0 aw (nI z) as_ ao, aI cB aw 72 u, aI cB as_ 16 fs, aI cB ao 24 fo])) 0 0 (va_A [(h0, .inr (0, [.ref aw, .int (nI z), .ref as_, .ref ao])), aI cB aw 72 fw, aI cB as_ 16 fs, aI cB ao 24 fo] sz) := by
  refine Met.ofW (cc := cX0_word) (maxL := 6) (ret := none) (by decide) rfl ?_
  intro p e s m args below meth c s₁ B hml hv
  obtain ⟨rfl, hsz, hP, hK, hD0, hE⟩ := hv
  have hx := B.exec
  have hb := B.bytes
  have hr := B.returns
  have hts := atoms_spec (ws := (ws_ yX0_word cX0_word 6 none)) B.pre
  have hts : ∀ w ∈ lw_all, w.before _ s = true := fun w h => hts w (List.mem_cons_of_mem _ h)
  have hown : s.vm.findClass RX0 = some m.cls := findClass_of_methodNamed B.named
  have hlocks := B.notSynchronized
  subst hsz
  obtain ⟨A, hAe⟩ : ∃ A : Nat → Prop, A = va_A [(h0, .inr (0, [.ref aw, .int (nI z), .ref as_, .ref ao])), aI cB aw 72 fw, aI cB as_ 16 fs, aI cB ao 24 fo] s.heap.size := ⟨_, rfl⟩
  have hD : va_D A [(h0, .inr (0, [.ref aw, .int (nI z), .ref as_, .ref ao])), aI cB aw 72 fw, aI cB as_ 16 fs, aI cB ao 24 fo] := by rw [hAe]; exact hD0.self
  have hA : ∀ q : Nat, s.heap.size ≤ q → A q := fun q h => by rw [hAe]; exact Or.inr h
  have hS : va_S A s.heap s.heap [] := va_S.rf
  refine cx_Q (fun Q hQe => ?_)
  have hP : va_P (dC, dI) vwCl [(h0, .inr (0, [.ref aw, .int (nI z), .ref as_, .ref ao])), aI cB aw 72 fw, aI cB as_ 16 fs, aI cB ao 24 fo] s.heap := hP
  have hl := lv_entry ([.ref h0, .int x, .int a, .int b, .int c0]) (n := 6) (Nat.le_of_ble_eq_true rfl)
  rw [lg_entry_eq]
  generalize (lg_sl ([.ref h0, .int x, .int a, .int b, .int c0]) ++ List.replicate (6 - (lg_sl ([.ref h0, .int x, .int a, .int b, .int c0])).length) Slot.unset).toArray = ls at hl ⊢
  have hl : lv_has ls 6 [(0, .ref h0), (1, .int x), (2, .int a), (3, .int b), (4, .int c0)] := hl
  have hm6 := bf_md_lt x (d := 6) (by decide)
  refine lv_bipush (v := nI 12) hx hb dX0_word_0 (by decide) ?_
  refine lv_iload_n hx hb dX0_word_2 rfl (lv_at hl 1 rfl) ?_
  refine lv_ldc hx hb hown (hts _ q50) dX0_word_3 ?_
  refine lv_iand hx hb dX0_word_5 ?_
  refine lv_bipush (v := nI 6) hx hb dX0_word_6 (by decide) ?_
  refine lv_irem hx hb dX0_word_8 (by decide) ?_
  refine cx_top (nI (bf_md x 6)) (bf_md_e x 6 (by decide) (by decide)) ?_
  refine lv_imul hx hb dX0_word_9 ?_
  refine cx_top (nI (12 * bf_md x 6)) (pk_mul 12 _) ?_
  refine lv_istore (lv' := [(5, .int (nI (12 * bf_md x 6))), (0, .ref h0), (1, .int x), (2, .int a), (3, .int b), (4, .int c0)]) hx hb dX0_word_10 hl (by decide) rfl (fun ls hl => ?_)
  refine lv_aload_n hx hb dX0_word_12 rfl (lv_at hl 1 rfl) ?_
  refine va_get (D := (dC, dI)) (ci := 0) (v := .ref aw) (C := RX0) (T := TX0) (N := 4) hx hb hts in_X0 hown hK hP 0 rfl rfl 0 (by decide) (hts _ q32) (fun _ h9 => h9) rfl dX0_word_13 ?_
  refine lv_iload hx hb dX0_word_16 (lv_at hl 0 rfl) ?_
  refine lv_iload_n hx hb dX0_word_18 rfl (lv_at hl 3 rfl) ?_
  refine cx_callv (wr := [(h0, .inr (0, [.ref aw, .int (nI z), .ref as_, .ref ao])), aI cB as_ 16 fs, aI cB ao 24 fo]) (va_runS (As := [.ref aw, .int (nI (12 * bf_md x 6)), .int a]) (rest := []) ⟨hx, hb, hml, hown, hts⟩ (met_lay0 l dC dI cI cB aw 72 (12 * bf_md x 6) a fw (by omega) (by decide) s.heap.size) (va_cwS 3 hts (lw_S q51 q52 q11 q53) rfl rfl rfl (by decide +kernel) ⟨Nat.le_of_ble_eq_true rfl, Nat.le_of_ble_eq_true rfl⟩) (cx_preS hP hD hK [1] rfl (by decide) rfl (cx_No_b) (fun _ _ _ => trivial)) rfl rfl hl.1 rfl (lv_room (Nat.le_of_ble_eq_true rfl)) dX0_word_19 ⟨Nat.le_of_ble_eq_true rfl, Nat.le_of_ble_eq_true rfl⟩) hP hD hS hA [1] [0, 2, 3] rfl rfl (by decide) (by decide) (fun u1 H locs hu1 hP hD hS => ?_)
  have hP : va_P (dC, dI) vwCl [(h0, .inr (0, [.ref aw, .int (nI z), .ref as_, .ref ao])), aI cB as_ 16 fs, aI cB ao 24 fo, aI cB aw 72 u1] H := hP
  have hD : va_D A [(h0, .inr (0, [.ref aw, .int (nI z), .ref as_, .ref ao])), aI cB as_ 16 fs, aI cB ao 24 fo, aI cB aw 72 u1] := hD
  refine lv_aload_n hx hb dX0_word_22 rfl (lv_at hl 1 rfl) ?_
  refine va_get (D := (dC, dI)) (ci := 0) (v := .ref aw) (C := RX0) (T := TX0) (N := 4) hx hb hts in_X0 hown hK hP 0 rfl rfl 0 (by decide) (hts _ q32) (fun _ h9 => h9) rfl dX0_word_23 ?_
  refine lv_iload hx hb dX0_word_26 (lv_at hl 0 rfl) ?_
  refine lv_iconst (v := 4) hx hb dX0_word_28 (by decide) ?_
  refine lv_iadd hx hb dX0_word_29 ?_
  refine cx_top (nI (12 * bf_md x 6 + 4)) (nI_add _ 4) ?_
  refine lv_iload_n hx hb dX0_word_30 rfl (lv_at hl 4 rfl) ?_
  refine cx_callv (wr := [(h0, .inr (0, [.ref aw, .int (nI z), .ref as_, .ref ao])), aI cB as_ 16 fs, aI cB ao 24 fo]) (va_runS (As := [.ref aw, .int (nI (12 * bf_md x 6 + 4)), .int b]) (rest := []) ⟨hx, hb, hml, hown, hts⟩ (met_lay0 l dC dI cI cB aw 72 (12 * bf_md x 6 + 4) b u1 (by omega) (by decide) H.size) (va_cwS 3 hts (lw_S q51 q52 q11 q53) rfl rfl rfl (by decide +kernel) ⟨Nat.le_of_ble_eq_true rfl, Nat.le_of_ble_eq_true rfl⟩) (cx_preS hP hD hK [3] rfl (by decide) rfl (cx_No_b) (fun _ _ _ => trivial)) rfl rfl hl.1 rfl (lv_room (Nat.le_of_ble_eq_true rfl)) dX0_word_31 ⟨Nat.le_of_ble_eq_true rfl, Nat.le_of_ble_eq_true rfl⟩) hP hD hS hA [3] [0, 1, 2] rfl rfl (by decide) (by decide) (fun u2 H locs hu2 hP hD hS => ?_)
  have hP : va_P (dC, dI) vwCl [(h0, .inr (0, [.ref aw, .int (nI z), .ref as_, .ref ao])), aI cB as_ 16 fs, aI cB ao 24 fo, aI cB aw 72 u2] H := hP
  have hD : va_D A [(h0, .inr (0, [.ref aw, .int (nI z), .ref as_, .ref ao])), aI cB as_ 16 fs, aI cB ao 24 fo, aI cB aw 72 u2] := hD
  refine lv_aload_n hx hb dX0_word_34 rfl (lv_at hl 1 rfl) ?_
  refine va_get (D := (dC, dI)) (ci := 0) (v := .ref aw) (C := RX0) (T := TX0) (N := 4) hx hb hts in_X0 hown hK hP 0 rfl rfl 0 (by decide) (hts _ q32) (fun _ h9 => h9) rfl dX0_word_35 ?_
  refine lv_iload hx hb dX0_word_38 (lv_at hl 0 rfl) ?_
  refine lv_bipush (v := 8) hx hb dX0_word_40 (by decide) ?_
  refine lv_iadd hx hb dX0_word_42 ?_
  refine cx_top (nI (12 * bf_md x 6 + 8)) (nI_add _ 8) ?_
  refine lv_iload hx hb dX0_word_43 (lv_at hl 5 rfl) ?_
  refine cx_callv (wr := [(h0, .inr (0, [.ref aw, .int (nI z), .ref as_, .ref ao])), aI cB as_ 16 fs, aI cB ao 24 fo]) (va_runS (As := [.ref aw, .int (nI (12 * bf_md x 6 + 8)), .int c0]) (rest := []) ⟨hx, hb, hml, hown, hts⟩ (met_lay0 l dC dI cI cB aw 72 (12 * bf_md x 6 + 8) c0 u2 (by omega) (by decide) H.size) (va_cwS 3 hts (lw_S q51 q52 q11 q53) rfl rfl rfl (by decide +kernel) ⟨Nat.le_of_ble_eq_true rfl, Nat.le_of_ble_eq_true rfl⟩) (cx_preS hP hD hK [3] rfl (by decide) rfl (cx_No_b) (fun _ _ _ => trivial)) rfl rfl hl.1 rfl (lv_room (Nat.le_of_ble_eq_true rfl)) dX0_word_45 ⟨Nat.le_of_ble_eq_true rfl, Nat.le_of_ble_eq_true rfl⟩) hP hD hS hA [3] [0, 1, 2] rfl rfl (by decide) (by decide) (fun u3 H locs hu3 hP hD hS => ?_)
  have hP : va_P (dC, dI) vwCl [(h0, .inr (0, [.ref aw, .int (nI z), .ref as_, .ref ao])), aI cB as_ 16 fs, aI cB ao 24 fo, aI cB aw 72 u3] H := hP
  have hD : va_D A [(h0, .inr (0, [.ref aw, .int (nI z), .ref as_, .ref ao])), aI cB as_ 16 fs, aI cB ao 24 fo, aI cB aw 72 u3] := hD
  subst hQe
  subst hAe
  exact W.vret hx hb hr (fun t ht hW => ⟨⟨u3, rfl, ⟨u1, u2, hu1, hu2, hu3⟩, by rw [ht]; exact hP.sub [0, 3, 1, 2] rfl, hD.sub [0, 3, 1, 2] (by decide) rfl⟩, hS.F ht⟩) hS.2.2 dX0_word_48
set_option maxHeartbeats 4000000 in
set_option maxRecDepth 100000 in
/-- CryptDesk.cut -/
theorem met_dcut (l : Launch) (dC : Nat → ClassId) (dI : Nat → Nat → Nat) (cI cB : ClassId) (h0 aw as_ ao z : Nat) (fw fs fo : Nat → Int32) (x : Int32) (sz : Nat) : Met l yX0_cut (ws_ yX0_cut cX0_cut 2 none) ({ frames := 0, cells := 0, slots := 0, locals := 0 } : Room) (cx_Pre (dC, dI) (tyL cI cB) [.ref h0, .int x] [(h0, .inr (0, [.ref aw, .int (nI z), .ref as_, .ref ao])), aI cB aw 72 fw, aI cB as_ 16 fs, aI cB ao 24 fo] sz cx_No) (cx_Qv (S := Unit) (dC, dI) [(h0, .inr (0, [.ref aw, .int (nI z), .ref as_, .ref ao])), aI cB aw 72 fw, aI cB as_ 16 fs, aI cB ao 24 fo] sz (fun u => True) (fun u => [oDesk h0 aw (nI (1 + bf_md x 72)) as_ ao, aI cB aw 72 fw, aI cB as_ 16 fs, aI cB ao 24 fo])) 0 0 (va_A [(h0, .inr (0, [.ref aw, .int (nI z), .ref as_, .ref ao])), aI cB aw 72 fw, aI cB as_ 16 fs, aI cB ao 24 fo] sz) := by
  refine Met.ofW (cc := cX0_cut) (maxL := 2) (ret := none) (by decide) rfl ?_
  intro p e s m args below meth c s₁ B hml hv
  obtain ⟨rfl, hsz, hP, hK, hD0, hE⟩ := hv
  have hx := B.exec
  have hb := B.bytes
  have hr := B.returns
  have hts := atoms_spec (ws := (ws_ yX0_cut cX0_cut 2 none)) B.pre
  have hts : ∀ w ∈ lw_all, w.before _ s = true := fun w h => hts w (List.mem_cons_of_mem _ h)
  have hown : s.vm.findClass RX0 = some m.cls := findClass_of_methodNamed B.named
  have hlocks := B.notSynchronized
  subst hsz
  obtain ⟨A, hAe⟩ : ∃ A : Nat → Prop, A = va_A [(h0, .inr (0, [.ref aw, .int (nI z), .ref as_, .ref ao])), aI cB aw 72 fw, aI cB as_ 16 fs, aI cB ao 24 fo] s.heap.size := ⟨_, rfl⟩
  have hD : va_D A [(h0, .inr (0, [.ref aw, .int (nI z), .ref as_, .ref ao])), aI cB aw 72 fw, aI cB as_ 16 fs, aI cB ao 24 fo] := by rw [hAe]; exact hD0.self
  have hA : ∀ q : Nat, s.heap.size ≤ q → A q := fun q h => by rw [hAe]; exact Or.inr h
  have hS : va_S A s.heap s.heap [] := va_S.rf
  refine cx_Q (fun Q hQe => ?_)
  have hP : va_P (dC, dI) vwCl [(h0, .inr (0, [.ref aw, .int (nI z), .ref as_, .ref ao])), aI cB aw 72 fw, aI cB as_ 16 fs, aI cB ao 24 fo] s.heap := hP
  have hl := lv_entry ([.ref h0, .int x]) (n := 2) (Nat.le_of_ble_eq_true rfl)
  rw [lg_entry_eq]
  generalize (lg_sl ([.ref h0, .int x]) ++ List.replicate (2 - (lg_sl ([.ref h0, .int x])).length) Slot.unset).toArray = ls at hl ⊢
  have hl : lv_has ls 2 [(0, .ref h0), (1, .int x)] := hl
  refine lv_aload_n hx hb dX0_cut_0 rfl (lv_at hl 0 rfl) ?_
  refine lv_iconst (v := 1) hx hb dX0_cut_1 (by decide) ?_
  refine lv_iload_n hx hb dX0_cut_2 rfl (lv_at hl 1 rfl) ?_
  refine lv_ldc hx hb hown (hts _ q50) dX0_cut_3 ?_
  refine lv_iand hx hb dX0_cut_5 ?_
  refine lv_bipush (v := nI 72) hx hb dX0_cut_6 (by decide) ?_
  refine lv_irem hx hb dX0_cut_8 (by decide) ?_
  refine cx_top (nI (bf_md x 72)) (bf_md_e x 72 (by decide) (by decide)) ?_
  refine lv_iadd hx hb dX0_cut_9 ?_
  refine cx_top (nI (1 + bf_md x 72)) (nI_add 1 _) ?_
  refine va_put (D := (dC, dI)) (ci := 0) (v := .int (nI (1 + bf_md x 72))) (ty := .int) (C := RX0) (T := TX0) (N := 4) hx hb hts in_X0 tyX0 tyX0_ok nmX0 hown hK hP hD hS 0 rfl rfl 1 (by decide) (hts _ q33) (fun _ h9 => h9) rfl (by decide +kernel) rfl rfl (Nat.le_of_ble_eq_true rfl) dX0_cut_10 (fun H locs hP hD hS => ?_)
  have hP : va_P (dC, dI) vwCl [(h0, .inr (0, [.ref aw, .int (nI (1 + bf_md x 72)), .ref as_, .ref ao])), aI cB aw 72 fw, aI cB as_ 16 fs, aI cB ao 24 fo] H := hP
  have hD : va_D A [(h0, .inr (0, [.ref aw, .int (nI (1 + bf_md x 72)), .ref as_, .ref ao])), aI cB aw 72 fw, aI cB as_ 16 fs, aI cB ao 24 fo] := hD
  subst hQe
  subst hAe
  exact W.vret hx hb hr (fun t ht hW => ⟨⟨(), rfl, trivial, by rw [ht]; exact hP.sub [0, 1, 2, 3] rfl, hD.sub [0, 1, 2, 3] (by decide) rfl⟩, hS.F ht⟩) hS.2.2 dX0_cut_13
set_option maxHeartbeats 4000000 in
set_option maxRecDepth 100000 in
/-- CryptDesk.salt -/
theorem met_dsalt (l : Launch) (dC : Nat → ClassId) (dI : Nat → Nat → Nat) (cI cB : ClassId) (h0 aw as_ ao z : Nat) (fw fs fo : Nat → Int32) (a b c0 d : Int32) (sz : Nat) : Met l yX0_salt (ws_ yX0_salt cX0_salt 5 none) ({ frames := 1, cells := 0, slots := 0, locals := 22 } : Room) (cx_Pre (dC, dI) (tyL cI cB) [.ref h0, .int a, .int b, .int c0, .int d] [(h0, .inr (0, [.ref aw, .int (nI z), .ref as_, .ref ao])), aI cB aw 72 fw, aI cB as_ 16 fs, aI cB ao 24 fo] sz cx_No) (cx_Qv (S := Nat → Int32) (dC, dI) [(h0, .inr (0, [.ref aw, .int (nI z), .ref as_, .ref ao])), aI cB aw 72 fw, aI cB as_ 16 fs, aI cB ao 24 fo] sz (fun u => bf_ld4 a b c0 d fs u) (fun u => [oDesk h0 aw (nI z) as_ ao, aI cB aw 72 fw, aI cB as_ 16 u, aI cB ao 24 fo])) 0 0 (va_A [(h0, .inr (0, [.ref aw, .int (nI z), .ref as_, .ref ao])), aI cB aw 72 fw, aI cB as_ 16 fs, aI cB ao 24 fo] sz) := by
  refine Met.ofW (cc := cX0_salt) (maxL := 5) (ret := none) (by decide) rfl ?_
  intro p e s m args below meth c s₁ B hml hv
  obtain ⟨rfl, hsz, hP, hK, hD0, hE⟩ := hv
  have hx := B.exec
  have hb := B.bytes
  have hr := B.returns
  have hts := atoms_spec (ws := (ws_ yX0_salt cX0_salt 5 none)) B.pre
  have hts : ∀ w ∈ lw_all, w.before _ s = true := fun w h => hts w (List.mem_cons_of_mem _ h)
  have hown : s.vm.findClass RX0 = some m.cls := findClass_of_methodNamed B.named
  have hlocks := B.notSynchronized
  subst hsz
  obtain ⟨A, hAe⟩ : ∃ A : Nat → Prop, A = va_A [(h0, .inr (0, [.ref aw, .int (nI z), .ref as_, .ref ao])), aI cB aw 72 fw, aI cB as_ 16 fs, aI cB ao 24 fo] s.heap.size := ⟨_, rfl⟩
  have hD : va_D A [(h0, .inr (0, [.ref aw, .int (nI z), .ref as_, .ref ao])), aI cB aw 72 fw, aI cB as_ 16 fs, aI cB ao 24 fo] := by rw [hAe]; exact hD0.self
  have hA : ∀ q : Nat, s.heap.size ≤ q → A q := fun q h => by rw [hAe]; exact Or.inr h
  have hS : va_S A s.heap s.heap [] := va_S.rf
  refine cx_Q (fun Q hQe => ?_)
  have hP : va_P (dC, dI) vwCl [(h0, .inr (0, [.ref aw, .int (nI z), .ref as_, .ref ao])), aI cB aw 72 fw, aI cB as_ 16 fs, aI cB ao 24 fo] s.heap := hP
  have hl := lv_entry ([.ref h0, .int a, .int b, .int c0, .int d]) (n := 5) (Nat.le_of_ble_eq_true rfl)
  rw [lg_entry_eq]
  generalize (lg_sl ([.ref h0, .int a, .int b, .int c0, .int d]) ++ List.replicate (5 - (lg_sl ([.ref h0, .int a, .int b, .int c0, .int d])).length) Slot.unset).toArray = ls at hl ⊢
  have hl : lv_has ls 5 [(0, .ref h0), (1, .int a), (2, .int b), (3, .int c0), (4, .int d)] := hl
  refine lv_aload_n hx hb dX0_salt_0 rfl (lv_at hl 0 rfl) ?_
  refine va_get (D := (dC, dI)) (ci := 0) (v := .ref as_) (C := RX0) (T := TX0) (N := 4) hx hb hts in_X0 hown hK hP 0 rfl rfl 2 (by decide) (hts _ q34) (fun _ h9 => h9) rfl dX0_salt_1 ?_
  refine lv_iconst (v := nI 0) hx hb dX0_salt_4 (by decide) ?_
  refine lv_iload_n hx hb dX0_salt_5 rfl (lv_at hl 1 rfl) ?_
  refine cx_callv (wr := [(h0, .inr (0, [.ref aw, .int (nI z), .ref as_, .ref ao])), aI cB aw 72 fw, aI cB ao 24 fo]) (va_runS (As := [.ref as_, .int (nI 0), .int a]) (rest := []) ⟨hx, hb, hml, hown, hts⟩ (met_lay0 l dC dI cI cB as_ 16 (0) a fs (by omega) (by decide) s.heap.size) (va_cwS 3 hts (lw_S q51 q52 q11 q53) rfl rfl rfl (by decide +kernel) ⟨Nat.le_of_ble_eq_true rfl, Nat.le_of_ble_eq_true rfl⟩) (cx_preS hP hD hK [2] rfl (by decide) rfl (cx_No_b) (fun _ _ _ => trivial)) rfl rfl hl.1 rfl (lv_room (Nat.le_of_ble_eq_true rfl)) dX0_salt_6 ⟨Nat.le_of_ble_eq_true rfl, Nat.le_of_ble_eq_true rfl⟩) hP hD hS hA [2] [0, 1, 3] rfl rfl (by decide) (by decide) (fun u1 H locs hu1 hP hD hS => ?_)
  have hP : va_P (dC, dI) vwCl [(h0, .inr (0, [.ref aw, .int (nI z), .ref as_, .ref ao])), aI cB aw 72 fw, aI cB ao 24 fo, aI cB as_ 16 u1] H := hP
  have hD : va_D A [(h0, .inr (0, [.ref aw, .int (nI z), .ref as_, .ref ao])), aI cB aw 72 fw, aI cB ao 24 fo, aI cB as_ 16 u1] := hD
  refine lv_aload_n hx hb dX0_salt_9 rfl (lv_at hl 0 rfl) ?_
  refine va_get (D := (dC, dI)) (ci := 0) (v := .ref as_) (C := RX0) (T := TX0) (N := 4) hx hb hts in_X0 hown hK hP 0 rfl rfl 2 (by decide) (hts _ q34) (fun _ h9 => h9) rfl dX0_salt_10 ?_
  refine lv_iconst (v := nI 4) hx hb dX0_salt_13 (by decide) ?_
  refine lv_iload_n hx hb dX0_salt_14 rfl (lv_at hl 2 rfl) ?_
  refine cx_callv (wr := [(h0, .inr (0, [.ref aw, .int (nI z), .ref as_, .ref ao])), aI cB aw 72 fw, aI cB ao 24 fo]) (va_runS (As := [.ref as_, .int (nI 4), .int b]) (rest := []) ⟨hx, hb, hml, hown, hts⟩ (met_lay0 l dC dI cI cB as_ 16 (4) b u1 (by omega) (by decide) H.size) (va_cwS 3 hts (lw_S q51 q52 q11 q53) rfl rfl rfl (by decide +kernel) ⟨Nat.le_of_ble_eq_true rfl, Nat.le_of_ble_eq_true rfl⟩) (cx_preS hP hD hK [3] rfl (by decide) rfl (cx_No_b) (fun _ _ _ => trivial)) rfl rfl hl.1 rfl (lv_room (Nat.le_of_ble_eq_true rfl)) dX0_salt_15 ⟨Nat.le_of_ble_eq_true rfl, Nat.le_of_ble_eq_true rfl⟩) hP hD hS hA [3] [0, 1, 2] rfl rfl (by decide) (by decide) (fun u2 H locs hu2 hP hD hS => ?_)
  have hP : va_P (dC, dI) vwCl [(h0, .inr (0, [.ref aw, .int (nI z), .ref as_, .ref ao])), aI cB aw 72 fw, aI cB ao 24 fo, aI cB as_ 16 u2] H := hP
  have hD : va_D A [(h0, .inr (0, [.ref aw, .int (nI z), .ref as_, .ref ao])), aI cB aw 72 fw, aI cB ao 24 fo, aI cB as_ 16 u2] := hD
  refine lv_aload_n hx hb dX0_salt_18 rfl (lv_at hl 0 rfl) ?_
  refine va_get (D := (dC, dI)) (ci := 0) (v := .ref as_) (C := RX0) (T := TX0) (N := 4) hx hb hts in_X0 hown hK hP 0 rfl rfl 2 (by decide) (hts _ q34) (fun _ h9 => h9) rfl dX0_salt_19 ?_
  refine lv_bipush (v := nI 8) hx hb dX0_salt_22 (by decide) ?_
  refine lv_iload_n hx hb dX0_salt_24 rfl (lv_at hl 3 rfl) ?_
  refine cx_callv (wr := [(h0, .inr (0, [.ref aw, .int (nI z), .ref as_, .ref ao])), aI cB aw 72 fw, aI cB ao 24 fo]) (va_runS (As := [.ref as_, .int (nI 8), .int c0]) (rest := []) ⟨hx, hb, hml, hown, hts⟩ (met_lay0 l dC dI cI cB as_ 16 (8) c0 u2 (by omega) (by decide) H.size) (va_cwS 3 hts (lw_S q51 q52 q11 q53) rfl rfl rfl (by decide +kernel) ⟨Nat.le_of_ble_eq_true rfl, Nat.le_of_ble_eq_true rfl⟩) (cx_preS hP hD hK [3] rfl (by decide) rfl (cx_No_b) (fun _ _ _ => trivial)) rfl rfl hl.1 rfl (lv_room (Nat.le_of_ble_eq_true rfl)) dX0_salt_25 ⟨Nat.le_of_ble_eq_true rfl, Nat.le_of_ble_eq_true rfl⟩) hP hD hS hA [3] [0, 1, 2] rfl rfl (by decide) (by decide) (fun u3 H locs hu3 hP hD hS => ?_)
  have hP : va_P (dC, dI) vwCl [(h0, .inr (0, [.ref aw, .int (nI z), .ref as_, .ref ao])), aI cB aw 72 fw, aI cB ao 24 fo, aI cB as_ 16 u3] H := hP
  have hD : va_D A [(h0, .inr (0, [.ref aw, .int (nI z), .ref as_, .ref ao])), aI cB aw 72 fw, aI cB ao 24 fo, aI cB as_ 16 u3] := hD
  refine lv_aload_n hx hb dX0_salt_28 rfl (lv_at hl 0 rfl) ?_
  refine va_get (D := (dC, dI)) (ci := 0) (v := .ref as_) (C := RX0) (T := TX0) (N := 4) hx hb hts in_X0 hown hK hP 0 rfl rfl 2 (by decide) (hts _ q34) (fun _ h9 => h9) rfl dX0_salt_29 ?_
  refine lv_bipush (v := nI 12) hx hb dX0_salt_32 (by decide) ?_
  refine lv_iload hx hb dX0_salt_34 (lv_at hl 4 rfl) ?_
  refine cx_callv (wr := [(h0, .inr (0, [.ref aw, .int (nI z), .ref as_, .ref ao])), aI cB aw 72 fw, aI cB ao 24 fo]) (va_runS (As := [.ref as_, .int (nI 12), .int d]) (rest := []) ⟨hx, hb, hml, hown, hts⟩ (met_lay0 l dC dI cI cB as_ 16 (12) d u3 (by omega) (by decide) H.size) (va_cwS 3 hts (lw_S q51 q52 q11 q53) rfl rfl rfl (by decide +kernel) ⟨Nat.le_of_ble_eq_true rfl, Nat.le_of_ble_eq_true rfl⟩) (cx_preS hP hD hK [3] rfl (by decide) rfl (cx_No_b) (fun _ _ _ => trivial)) rfl rfl hl.1 rfl (lv_room (Nat.le_of_ble_eq_true rfl)) dX0_salt_36 ⟨Nat.le_of_ble_eq_true rfl, Nat.le_of_ble_eq_true rfl⟩) hP hD hS hA [3] [0, 1, 2] rfl rfl (by decide) (by decide) (fun u4 H locs hu4 hP hD hS => ?_)
  have hP : va_P (dC, dI) vwCl [(h0, .inr (0, [.ref aw, .int (nI z), .ref as_, .ref ao])), aI cB aw 72 fw, aI cB ao 24 fo, aI cB as_ 16 u4] H := hP
  have hD : va_D A [(h0, .inr (0, [.ref aw, .int (nI z), .ref as_, .ref ao])), aI cB aw 72 fw, aI cB ao 24 fo, aI cB as_ 16 u4] := hD
  subst hQe
  subst hAe
  exact W.vret hx hb hr (fun t ht hW => ⟨⟨u4, rfl, ⟨u1, u2, u3, hu1, hu2, hu3, hu4⟩, by rw [ht]; exact hP.sub [0, 1, 3, 2] rfl, hD.sub [0, 1, 3, 2] (by decide) rfl⟩, hS.F ht⟩) hS.2.2 dX0_salt_39
set_option maxHeartbeats 4000000 in
set_option maxRecDepth 100000 in
/-- CryptDesk.out -/
theorem met_dout (l : Launch) (dC : Nat → ClassId) (dI : Nat → Nat → Nat) (cI cB : ClassId) (h0 aw as_ ao z : Nat) (fw fs fo : Nat → Int32) (x : Int32) : Met l yX0_out (ws_ yX0_out cX0_out 2 (some .int)) ({ frames := 0, cells := 0, slots := 0, locals := 0 } : Room) (cx_Pp (dC, dI) (tyL cI cB) [.ref h0, .int x] [(h0, .inr (0, [.ref aw, .int (nI z), .ref as_, .ref ao])), aI cB aw 72 fw, aI cB as_ 16 fs, aI cB ao 24 fo]) (vp_Si (fun r => r = fo (bf_md x 24) &&& 255)) 0 0 (fun _ => False) := by
  refine Met.ofW (cc := cX0_out) (maxL := 2) (ret := (some .int)) (by decide) rfl ?_
  intro p e s m args below meth c s₁ B hml hv
  obtain ⟨rfl, hP, hK⟩ := hv
  have hx := B.exec
  have hb := B.bytes
  have hr := B.returns
  have hts := atoms_spec (ws := (ws_ yX0_out cX0_out 2 (some .int))) B.pre
  have hts : ∀ w ∈ lw_all, w.before _ s = true := fun w h => hts w (List.mem_cons_of_mem _ h)
  have hown : s.vm.findClass RX0 = some m.cls := findClass_of_methodNamed B.named
  have hlocks := B.notSynchronized
  refine cx_Q (fun Q hQe => ?_)
  have hP : va_P (dC, dI) vwCl [(h0, .inr (0, [.ref aw, .int (nI z), .ref as_, .ref ao])), aI cB aw 72 fw, aI cB as_ 16 fs, aI cB ao 24 fo] s.heap := hP
  have hl := lv_entry ([.ref h0, .int x]) (n := 2) (Nat.le_of_ble_eq_true rfl)
  rw [lg_entry_eq]
  generalize (lg_sl ([.ref h0, .int x]) ++ List.replicate (2 - (lg_sl ([.ref h0, .int x])).length) Slot.unset).toArray = ls at hl ⊢
  have hl : lv_has ls 2 [(0, .ref h0), (1, .int x)] := hl
  refine lv_aload_n hx hb dX0_out_0 rfl (lv_at hl 0 rfl) ?_
  refine va_get (D := (dC, dI)) (ci := 0) (v := .ref ao) (C := RX0) (T := TX0) (N := 4) hx hb hts in_X0 hown hK hP 0 rfl rfl 3 (by decide) (hts _ q35) (fun _ h9 => h9) rfl dX0_out_1 ?_
  refine lv_iload_n hx hb dX0_out_4 rfl (lv_at hl 1 rfl) ?_
  refine lv_ldc hx hb hown (hts _ q50) dX0_out_5 ?_
  refine lv_iand hx hb dX0_out_7 ?_
  refine lv_bipush (v := nI 24) hx hb dX0_out_8 (by decide) ?_
  refine lv_irem hx hb dX0_out_10 (by decide) ?_
  refine cx_top (nI (bf_md x 24)) (bf_md_e x 24 (by decide) (by decide)) ?_
  refine cx_bald hx hb hK hP 3 1 rfl rfl (bf_md x 24) (rfl) (bf_md_lt x (by decide)) (by decide) dX0_out_11 ?_
  refine lv_sipush (v := 255) hx hb dX0_out_12 (by decide) ?_
  refine lv_iand hx hb dX0_out_15 ?_
  subst hQe
  exact W.iret (v := fo (bf_md x 24) &&& 255) hx hb hr (fun t ht hW => ⟨_, rfl, rfl, ht⟩) (fun q h => by cases h) dX0_out_16
set_option maxHeartbeats 4000000 in
set_option maxRecDepth 100000 in
/-- CryptDesk.hash -/
theorem met_dhash (l : Launch) (dC : Nat → ClassId) (dI : Nat → Nat → Nat) (cI cB : ClassId) (h0 aw as_ ao z : Nat) (fw fs fo : Nat → Int32) (T M : Nat → Int32) (x : Int32) (hz : 0 < z) (hz2 : z ≤ 72) (sz : Nat) : Met l yX0_hash (ws_ yX0_hash cX0_hash 4 none) ({ frames := 5, cells := 8, slots := 1166, locals := 122 } : Room) (cx_Pre (dC, dI) (tyL cI cB) [.ref h0, .int x] [(h0, .inr (0, [.ref aw, .int (nI z), .ref as_, .ref ao])), aI cB aw 72 fw, aI cB as_ 16 fs, aI cB ao 24 fo] sz (cx_Bc T M (va_A [(h0, .inr (0, [.ref aw, .int (nI z), .ref as_, .ref ao])), aI cB aw 72 fw, aI cB as_ 16 fs, aI cB ao 24 fo] sz))) (cx_Qv (S := (Nat → Int32) × Nat) (dC, dI) [(h0, .inr (0, [.ref aw, .int (nI z), .ref as_, .ref ao])), aI cB aw 72 fw, aI cB as_ 16 fs, aI cB ao 24 fo] sz (fun u => ∀ j, j < 24 → u.1 j &&& 255 = bf_by (bf_out (bf_fin (fun j => fw j &&& 255) z (fun j => fs j &&& 255) (2 ^ bf_cs x) T) M (j / 4)) (j % 4)) (fun u => [oDesk h0 aw (nI z) as_ u.2, aI cB aw 72 fw, aI cB as_ 16 fs, aI cB u.2 24 u.1])) 8 1166 (va_A [(h0, .inr (0, [.ref aw, .int (nI z), .ref as_, .ref ao])), aI cB aw 72 fw, aI cB as_ 16 fs, aI cB ao 24 fo] sz) := by
  refine Met.ofW (cc := cX0_hash) (maxL := 4) (ret := none) (by decide) rfl ?_
  intro p e s m args below meth c s₁ B hml hv
  obtain ⟨rfl, hsz, hP, hK, hD0, hE⟩ := hv
  have hx := B.exec
  have hb := B.bytes
  have hr := B.returns
  have hts := atoms_spec (ws := (ws_ yX0_hash cX0_hash 4 none)) B.pre
  have hts : ∀ w ∈ lw_all, w.before _ s = true := fun w h => hts w (List.mem_cons_of_mem _ h)
  have hown : s.vm.findClass RX0 = some m.cls := findClass_of_methodNamed B.named
  have hlocks := B.notSynchronized
  subst hsz
  obtain ⟨A, hAe⟩ : ∃ A : Nat → Prop, A = va_A [(h0, .inr (0, [.ref aw, .int (nI z), .ref as_, .ref ao])), aI cB aw 72 fw, aI cB as_ 16 fs, aI cB ao 24 fo] s.heap.size := ⟨_, rfl⟩
  have hD : va_D A [(h0, .inr (0, [.ref aw, .int (nI z), .ref as_, .ref ao])), aI cB aw 72 fw, aI cB as_ 16 fs, aI cB ao 24 fo] := by rw [hAe]; exact hD0.self
  rw [← hAe] at hE
  have hA : ∀ q : Nat, s.heap.size ≤ q → A q := fun q h => by rw [hAe]; exact Or.inr h
  have hS : va_S A s.heap s.heap [] := va_S.rf
  refine cx_Q (fun Q hQe => ?_)
  have hP : va_P (dC, dI) vwCl [(h0, .inr (0, [.ref aw, .int (nI z), .ref as_, .ref ao])), aI cB aw 72 fw, aI cB as_ 16 fs, aI cB ao 24 fo] s.heap := hP
  have hl := lv_entry ([.ref h0, .int x]) (n := 4) (Nat.le_of_ble_eq_true rfl)
  rw [lg_entry_eq]
  generalize (lg_sl ([.ref h0, .int x]) ++ List.replicate (4 - (lg_sl ([.ref h0, .int x])).length) Slot.unset).toArray = ls at hl ⊢
  have hl : lv_has ls 4 [(0, .ref h0), (1, .int x)] := hl
  refine lv_aload_n hx hb dX0_hash_0 rfl (lv_at hl 0 rfl) ?_
  refine va_get (D := (dC, dI)) (ci := 0) (v := .int (nI z)) (C := RX0) (T := TX0) (N := 4) hx hb hts in_X0 hown hK hP 0 rfl rfl 1 (by decide) (hts _ q33) (fun _ h9 => h9) rfl dX0_hash_1 ?_
  refine cx_newB hx hb (hts _ q45) hK hP hD hS hA (z) (rfl) (by omega) (by decide) (by show 0 + z ≤ 1166; omega) dX0_hash_4 (fun aN H hP hD hS => ?_)
  have hP : va_P (dC, dI) vwCl [(h0, .inr (0, [.ref aw, .int (nI z), .ref as_, .ref ao])), aI cB aw 72 fw, aI cB as_ 16 fs, aI cB ao 24 fo, aI cB aN z (fun _ => 0)] H := hP
  have hD : va_D A [(h0, .inr (0, [.ref aw, .int (nI z), .ref as_, .ref ao])), aI cB aw 72 fw, aI cB as_ 16 fs, aI cB ao 24 fo, aI cB aN z (fun _ => 0)] := hD
  refine lv_astore_n (lv' := [(2, .ref aN), (0, .ref h0), (1, .int x)]) hx hb dX0_hash_6 rfl hl (by decide) rfl (fun ls hl => ?_)
  refine lv_iconst (v := nI 0) hx hb dX0_hash_7 (by decide) ?_
  refine lv_istore_n (lv' := [(3, .int (nI 0)), (2, .ref aN), (0, .ref h0), (1, .int x)]) hx hb dX0_hash_8 rfl hl (by decide) rfl (fun ls hl => ?_)
  refine W.widen (k := 1) (n := 72) (by decide) (by omega) ?_
  have loop : ∀ (k i : Nat), i + k = z → ∀ (f : Nat → Int32) (H : Heap) (locs : List Loc) (ls : Array Slot), (∀ j, j < i → f j &&& 255 = fw j &&& 255) → va_P (dC, dI) vwCl [(h0, .inr (0, [.ref aw, .int (nI z), .ref as_, .ref ao])), aI cB aw 72 fw, aI cB as_ 16 fs, aI cB ao 24 fo, aI cB aN z f] H → va_D A [(h0, .inr (0, [.ref aw, .int (nI z), .ref as_, .ref ao])), aI cB aw 72 fw, aI cB as_ 16 fs, aI cB ao 24 fo, aI cB aN z f] → va_S A s.heap H locs → lv_has ls 4 [(0, .ref h0), (1, .int x), (2, .ref aN), (3, .int (nI i))] → W p l e (headSpec (ws_ yX0_hash cX0_hash 4 none) ({ frames := 5, cells := 8, slots := 1166, locals := 122 } : Room)).room s m ([.ref h0, .int x] : List Value).toArray below meth c H locs 1 72 Q (F0 m 9 ls []) := by
    intro k
    induction k with
    | zero =>
      intro i hi f H locs ls hf hP hD hS hl
      refine lv_iload_n hx hb dX0_hash_9 rfl (lv_at hl 3 rfl) ?_
      refine lv_aload_n hx hb dX0_hash_10 rfl (lv_at hl 0 rfl) ?_
      refine va_get (D := (dC, dI)) (ci := 0) (v := .int (nI z)) (C := RX0) (T := TX0) (N := 4) hx hb hts in_X0 hown hK hP 0 rfl rfl 1 (by decide) (hts _ q33) (fun _ h9 => h9) rfl dX0_hash_11 ?_
      refine lv_icmp_ge (tgt := 32) hx hb dX0_hash_14 (by decide) (fun _ => ?_) (fun c9 => absurd (nI_le (by omega) (by omega)) c9)
      refine lv_aload_n hx hb dX0_hash_32 rfl (lv_at hl 0 rfl) ?_
      refine lv_aload_n hx hb dX0_hash_33 rfl (lv_at hl 2 rfl) ?_
      refine lv_aload_n hx hb dX0_hash_34 rfl (lv_at hl 0 rfl) ?_
      refine va_get (D := (dC, dI)) (ci := 0) (v := .ref as_) (C := RX0) (T := TX0) (N := 4) hx hb hts in_X0 hown hK hP 0 rfl rfl 2 (by decide) (hts _ q34) (fun _ h9 => h9) rfl dX0_hash_35 ?_
      refine lv_iconst (v := 4) hx hb dX0_hash_38 (by decide) ?_
      refine lv_iload_n hx hb dX0_hash_39 rfl (lv_at hl 1 rfl) ?_
      refine lv_iconst (v := 1) hx hb dX0_hash_40 (by decide) ?_
      refine lv_iand hx hb dX0_hash_41 ?_
      refine lv_iadd hx hb dX0_hash_42 ?_
      refine cx_top (nI (bf_cs x)) (bf_cs_e x) ?_
      refine lv_iconst (v := 0) hx hb dX0_hash_43 (by decide) ?_
      refine cx_callr (wr := [(h0, .inr (0, [.ref aw, .int (nI z), .ref as_, .ref ao])), aI cB aw 72 fw, aI cB ao 24 fo]) (va_runS (As := [.ref aN, .ref as_, .int (nI (bf_cs x)), .int 0]) (rest := [.ref h0]) ⟨hx, hb, hml, hown, hts⟩ (met_gen l dC dI cI cB aN as_ z (bf_cs x) (2 ^ bf_cs x) T M f fs hz hz2 (bf_cs_le x).1 (Nat.le_trans (bf_cs_le x).2 (by decide)) (bf_cs_r x) (bf_cs_p x) H.size) (va_cwS 4 hts (lw_S q66 q67 q13 q68) rfl rfl rfl (by decide +kernel) ⟨Nat.le_of_ble_eq_true rfl, Nat.le_of_ble_eq_true rfl⟩) (cx_preS hP hD hK [4, 2] rfl (by decide) rfl (cx_Bc_b) (fun U hU hW => hE.pass hS (va_free (wc := [aI cB aN z f, aI cB as_ 16 fs]) hD hS hA [4, 2] rfl) hU hW)) rfl rfl hl.1 rfl (lv_room (Nat.le_of_ble_eq_true rfl)) dX0_hash_44 ⟨Nat.le_of_ble_eq_true rfl, Nat.le_of_ble_eq_true rfl⟩) hP hD hS hA [4, 2] [0, 1, 3] rfl rfl (by decide) (by decide) (fun u ra H locs hu hP hD hS => ?_)
      have hP : va_P (dC, dI) vwCl [(h0, .inr (0, [.ref aw, .int (nI z), .ref as_, .ref ao])), aI cB aw 72 fw, aI cB ao 24 fo, aI cB aN z f, aI cB as_ 16 fs, aI cB ra 24 u] H := hP
      have hD : va_D A [(h0, .inr (0, [.ref aw, .int (nI z), .ref as_, .ref ao])), aI cB aw 72 fw, aI cB ao 24 fo, aI cB aN z f, aI cB as_ 16 fs, aI cB ra 24 u] := hD
      refine va_put (D := (dC, dI)) (ci := 0) (v := .ref ra) (ty := (.array .byte)) (C := RX0) (T := TX0) (N := 4) hx hb hts in_X0 tyX0 tyX0_ok nmX0 hown hK hP hD hS 0 rfl rfl 3 (by decide) (hts _ q35) (fun _ h9 => h9) rfl (by decide +kernel) rfl rfl (Nat.le_of_ble_eq_true rfl) dX0_hash_47 (fun H locs hP hD hS => ?_)
      have hP : va_P (dC, dI) vwCl [(h0, .inr (0, [.ref aw, .int (nI z), .ref as_, .ref ra])), aI cB aw 72 fw, aI cB ao 24 fo, aI cB aN z f, aI cB as_ 16 fs, aI cB ra 24 u] H := hP
      have hD : va_D A [(h0, .inr (0, [.ref aw, .int (nI z), .ref as_, .ref ra])), aI cB aw 72 fw, aI cB ao 24 fo, aI cB aN z f, aI cB as_ 16 fs, aI cB ra 24 u] := hD
      refine W.widen (k := 8) (n := 1166) (by decide) (by decide) ?_
      subst hQe
      subst hAe
      exact W.vret hx hb hr (fun t ht hW => ⟨⟨(u, ra), rfl, fun j hj => by rw [hu j hj, bf_fin_c (g := fun j => f j &&& 255) (g' := fun j => fw j &&& 255) hz (fun q hq => hf q (by omega)) (fun _ _ => rfl)], by rw [ht]; exact hP.sub [0, 1, 4, 5] rfl, hD.sub [0, 1, 4, 5] (by decide) rfl⟩, hS.F ht⟩) hS.2.2 dX0_hash_50
    | succ k ih =>
      intro i hi f H locs ls hf hP hD hS hl
      refine lv_iload_n hx hb dX0_hash_9 rfl (lv_at hl 3 rfl) ?_
      refine lv_aload_n hx hb dX0_hash_10 rfl (lv_at hl 0 rfl) ?_
      refine va_get (D := (dC, dI)) (ci := 0) (v := .int (nI z)) (C := RX0) (T := TX0) (N := 4) hx hb hts in_X0 hown hK hP 0 rfl rfl 1 (by decide) (hts _ q33) (fun _ h9 => h9) rfl dX0_hash_11 ?_
      refine lv_icmp_ge (tgt := 32) hx hb dX0_hash_14 (by decide) (fun c9 => absurd c9 (nI_ge (by omega) (by omega))) (fun _ => ?_)
      refine lv_aload_n hx hb dX0_hash_17 rfl (lv_at hl 2 rfl) ?_
      refine lv_iload_n hx hb dX0_hash_18 rfl (lv_at hl 3 rfl) ?_
      refine lv_aload_n hx hb dX0_hash_19 rfl (lv_at hl 0 rfl) ?_
      refine va_get (D := (dC, dI)) (ci := 0) (v := .ref aw) (C := RX0) (T := TX0) (N := 4) hx hb hts in_X0 hown hK hP 0 rfl rfl 0 (by decide) (hts _ q32) (fun _ h9 => h9) rfl dX0_hash_20 ?_
      refine lv_iload_n hx hb dX0_hash_23 rfl (lv_at hl 3 rfl) ?_
      refine cx_bald hx hb hK hP 1 1 rfl rfl (i) (rfl) (by omega) (by decide) dX0_hash_24 ?_
      refine cx_bast hx hb hK hP hD hS 4 1 rfl rfl (i) (rfl) (by omega) (by omega) dX0_hash_25 (fun H locs hP hD hS => ?_)
      have hP : va_P (dC, dI) vwCl [(h0, .inr (0, [.ref aw, .int (nI z), .ref as_, .ref ao])), aI cB aw 72 fw, aI cB as_ 16 fs, aI cB ao 24 fo, aI cB aN z (upd f i (vp_nar .byte (fw i)))] H := hP
      have hD : va_D A [(h0, .inr (0, [.ref aw, .int (nI z), .ref as_, .ref ao])), aI cB aw 72 fw, aI cB as_ 16 fs, aI cB ao 24 fo, aI cB aN z (upd f i (vp_nar .byte (fw i)))] := hD
      refine lv_iinc (v := nI (i + 1)) (lv' := [(3, .int (nI (i + 1))), (0, .ref h0), (1, .int x), (2, .ref aN)]) hx hb dX0_hash_26 hl (k := 3) rfl (nI_1 i) (by decide) rfl (fun ls hl => ?_)
      refine lv_goto (tgt := 9) hx hb dX0_hash_29 (by decide) ?_
      exact ih (i + 1) (by omega) _ H locs ls (bf_cpn hf) hP hD hS (lv_sub hl [1, 2, 3, 0] rfl)
  exact loop z 0 (by omega) _ _ _ ls (fun j hj => absurd hj (by omega)) hP hD hS (lv_sub hl [2, 3, 1, 0] rfl)
end
section
/-! CryptDeskModel: all but hash -/
set_option maxHeartbeats 4000000 in
set_option maxRecDepth 100000 in
/-- CryptDeskModel() -/
theorem met_minit (l : Launch) (dC : Nat → ClassId) (dI : Nat → Nat → Nat) (cI cB : ClassId) (h0 : Nat) (sz : Nat) : Met l yX1_init (ws_ yX1_init cX1_init 1 none) ({ frames := 1, cells := 4, slots := 1154, locals := 12 } : Room) (cx_Pre (dC, dI) (tyL cI cB) [.ref h0] [(h0, .inr (1, [.null, .int 0, .null, .null, .null, .int 0, .int 0]))] sz cx_No) (cx_Qv (S := Nat × Nat × Nat × Nat) (dC, dI) [(h0, .inr (1, [.null, .int 0, .null, .null, .null, .int 0, .int 0]))] sz (fun u => True) (fun u => [oMod h0 u.1 (nI 1) u.2.1 u.2.2.1 u.2.2.2 0 0, aI cI u.1 72 (fun _ => 0), aI cI u.2.1 16 (fun _ => 0), aI cI u.2.2.1 24 (fun _ => 0), aI cI u.2.2.2 1042 (fun _ => 0)])) 4 1154 (va_A [(h0, .inr (1, [.null, .int 0, .null, .null, .null, .int 0, .int 0]))] sz) := by
  refine Met.ofW (cc := cX1_init) (maxL := 1) (ret := none) (by decide) rfl ?_
  intro p e s m args below meth c s₁ B hml hv
  obtain ⟨rfl, hsz, hP, hK, hD0, hE⟩ := hv
  have hx := B.exec
  have hb := B.bytes
  have hr := B.returns
  have hts := atoms_spec (ws := (ws_ yX1_init cX1_init 1 none)) B.pre
  have hts : ∀ w ∈ lw_all, w.before _ s = true := fun w h => hts w (List.mem_cons_of_mem _ h)
  have hown : s.vm.findClass RX1 = some m.cls := findClass_of_methodNamed B.named
  have hlocks := B.notSynchronized
  have hin : meth.name = "<init>" := (name_of_methodNamed B.named B.method).1
  subst hsz
  obtain ⟨A, hAe⟩ : ∃ A : Nat → Prop, A = va_A [(h0, .inr (1, [.null, .int 0, .null, .null, .null, .int 0, .int 0]))] s.heap.size := ⟨_, rfl⟩
  have hD : va_D A [(h0, .inr (1, [.null, .int 0, .null, .null, .null, .int 0, .int 0]))] := by rw [hAe]; exact hD0.self
  have hA : ∀ q : Nat, s.heap.size ≤ q → A q := fun q h => by rw [hAe]; exact Or.inr h
  have hS : va_S A s.heap s.heap [] := va_S.rf
  refine cx_Q (fun Q hQe => ?_)
  have hP : va_P (dC, dI) vwCl [(h0, .inr (1, [.null, .int 0, .null, .null, .null, .int 0, .int 0]))] s.heap := hP
  have hl := lv_entry ([.ref h0]) (n := 1) (Nat.le_of_ble_eq_true rfl)
  rw [lg_entry_eq]
  generalize (lg_sl ([.ref h0]) ++ List.replicate (1 - (lg_sl ([.ref h0])).length) Slot.unset).toArray = ls at hl ⊢
  have hl : lv_has ls 1 [(0, .ref h0)] := hl
  refine lv_aload_n hx hb dX1_init_0 rfl (lv_at hl 0 rfl) ?_
  refine W.objInit hx hb hown (hts _ q247) (hts _ q30) (hts _ q31) rfl (by rw [hml]; exact hl.1) rfl dX1_init_1 (Nat.le_of_ble_eq_true rfl) (Nat.le_of_ble_eq_true rfl) ?_
  refine W.eq (g2 := F0 m 4 ls []) rfl ?_
  refine lv_aload_n hx hb dX1_init_4 rfl (lv_at hl 0 rfl) ?_
  refine lv_bipush (v := 72) hx hb dX1_init_5 (by decide) ?_
  refine cx_newI hx hb (hts _ q157) hK hP hD hS hA (72) (rfl) (by decide) (by decide) (by decide) dX1_init_7 (fun aw H hP hD hS => ?_)
  have hP : va_P (dC, dI) vwCl [(h0, .inr (1, [.null, .int 0, .null, .null, .null, .int 0, .int 0])), aI cI aw 72 (fun _ => 0)] H := hP
  have hD : va_D A [(h0, .inr (1, [.null, .int 0, .null, .null, .null, .int 0, .int 0])), aI cI aw 72 (fun _ => 0)] := hD
  refine va_putF (D := (dC, dI)) (ci := 1) (v := .ref aw) (ty := (.array .int)) (C := RX1) (T := TX1) (N := 7) hx hb hts in_X1 tyX1 tyX1_ok nmX1 hown hK hP hD hS 0 rfl rfl 0 (by decide) (hts _ q248) (fun _ h9 => h9) rfl hin rfl (by decide +kernel) rfl rfl (Nat.le_of_ble_eq_true rfl) dX1_init_9 (fun H locs hP hD hS => ?_)
  have hP : va_P (dC, dI) vwCl [(h0, .inr (1, [.ref aw, .int 0, .null, .null, .null, .int 0, .int 0])), aI cI aw 72 (fun _ => 0)] H := hP
  have hD : va_D A [(h0, .inr (1, [.ref aw, .int 0, .null, .null, .null, .int 0, .int 0])), aI cI aw 72 (fun _ => 0)] := hD
  refine lv_aload_n hx hb dX1_init_12 rfl (lv_at hl 0 rfl) ?_
  refine lv_iconst (v := nI 1) hx hb dX1_init_13 (by decide) ?_
  refine va_put (D := (dC, dI)) (ci := 1) (v := .int (nI 1)) (ty := .int) (C := RX1) (T := TX1) (N := 7) hx hb hts in_X1 tyX1 tyX1_ok nmX1 hown hK hP hD hS 0 rfl rfl 1 (by decide) (hts _ q249) (fun _ h9 => h9) rfl (by decide +kernel) rfl rfl (Nat.le_of_ble_eq_true rfl) dX1_init_14 (fun H locs hP hD hS => ?_)
  have hP : va_P (dC, dI) vwCl [(h0, .inr (1, [.ref aw, .int (nI 1), .null, .null, .null, .int 0, .int 0])), aI cI aw 72 (fun _ => 0)] H := hP
  have hD : va_D A [(h0, .inr (1, [.ref aw, .int (nI 1), .null, .null, .null, .int 0, .int 0])), aI cI aw 72 (fun _ => 0)] := hD
  refine lv_aload_n hx hb dX1_init_17 rfl (lv_at hl 0 rfl) ?_
  refine lv_bipush (v := 16) hx hb dX1_init_18 (by decide) ?_
  refine cx_newI hx hb (hts _ q157) hK hP hD hS hA (16) (rfl) (by decide) (by decide) (by decide) dX1_init_20 (fun as_ H hP hD hS => ?_)
  have hP : va_P (dC, dI) vwCl [(h0, .inr (1, [.ref aw, .int (nI 1), .null, .null, .null, .int 0, .int 0])), aI cI aw 72 (fun _ => 0), aI cI as_ 16 (fun _ => 0)] H := hP
  have hD : va_D A [(h0, .inr (1, [.ref aw, .int (nI 1), .null, .null, .null, .int 0, .int 0])), aI cI aw 72 (fun _ => 0), aI cI as_ 16 (fun _ => 0)] := hD
  refine va_putF (D := (dC, dI)) (ci := 1) (v := .ref as_) (ty := (.array .int)) (C := RX1) (T := TX1) (N := 7) hx hb hts in_X1 tyX1 tyX1_ok nmX1 hown hK hP hD hS 0 rfl rfl 2 (by decide) (hts _ q250) (fun _ h9 => h9) rfl hin rfl (by decide +kernel) rfl rfl (Nat.le_of_ble_eq_true rfl) dX1_init_22 (fun H locs hP hD hS => ?_)
  have hP : va_P (dC, dI) vwCl [(h0, .inr (1, [.ref aw, .int (nI 1), .ref as_, .null, .null, .int 0, .int 0])), aI cI aw 72 (fun _ => 0), aI cI as_ 16 (fun _ => 0)] H := hP
  have hD : va_D A [(h0, .inr (1, [.ref aw, .int (nI 1), .ref as_, .null, .null, .int 0, .int 0])), aI cI aw 72 (fun _ => 0), aI cI as_ 16 (fun _ => 0)] := hD
  refine lv_aload_n hx hb dX1_init_25 rfl (lv_at hl 0 rfl) ?_
  refine lv_bipush (v := 24) hx hb dX1_init_26 (by decide) ?_
  refine cx_newI hx hb (hts _ q157) hK hP hD hS hA (24) (rfl) (by decide) (by decide) (by decide) dX1_init_28 (fun ao H hP hD hS => ?_)
  have hP : va_P (dC, dI) vwCl [(h0, .inr (1, [.ref aw, .int (nI 1), .ref as_, .null, .null, .int 0, .int 0])), aI cI aw 72 (fun _ => 0), aI cI as_ 16 (fun _ => 0), aI cI ao 24 (fun _ => 0)] H := hP
  have hD : va_D A [(h0, .inr (1, [.ref aw, .int (nI 1), .ref as_, .null, .null, .int 0, .int 0])), aI cI aw 72 (fun _ => 0), aI cI as_ 16 (fun _ => 0), aI cI ao 24 (fun _ => 0)] := hD
  refine va_putF (D := (dC, dI)) (ci := 1) (v := .ref ao) (ty := (.array .int)) (C := RX1) (T := TX1) (N := 7) hx hb hts in_X1 tyX1 tyX1_ok nmX1 hown hK hP hD hS 0 rfl rfl 3 (by decide) (hts _ q251) (fun _ h9 => h9) rfl hin rfl (by decide +kernel) rfl rfl (Nat.le_of_ble_eq_true rfl) dX1_init_30 (fun H locs hP hD hS => ?_)
  have hP : va_P (dC, dI) vwCl [(h0, .inr (1, [.ref aw, .int (nI 1), .ref as_, .ref ao, .null, .int 0, .int 0])), aI cI aw 72 (fun _ => 0), aI cI as_ 16 (fun _ => 0), aI cI ao 24 (fun _ => 0)] H := hP
  have hD : va_D A [(h0, .inr (1, [.ref aw, .int (nI 1), .ref as_, .ref ao, .null, .int 0, .int 0])), aI cI aw 72 (fun _ => 0), aI cI as_ 16 (fun _ => 0), aI cI ao 24 (fun _ => 0)] := hD
  refine lv_aload_n hx hb dX1_init_33 rfl (lv_at hl 0 rfl) ?_
  refine lv_sipush (v := 1042) hx hb dX1_init_34 (by decide) ?_
  refine cx_newI hx hb (hts _ q157) hK hP hD hS hA (1042) (rfl) (by decide) (by decide) (by decide) dX1_init_37 (fun at_ H hP hD hS => ?_)
  have hP : va_P (dC, dI) vwCl [(h0, .inr (1, [.ref aw, .int (nI 1), .ref as_, .ref ao, .null, .int 0, .int 0])), aI cI aw 72 (fun _ => 0), aI cI as_ 16 (fun _ => 0), aI cI ao 24 (fun _ => 0), aI cI at_ 1042 (fun _ => 0)] H := hP
  have hD : va_D A [(h0, .inr (1, [.ref aw, .int (nI 1), .ref as_, .ref ao, .null, .int 0, .int 0])), aI cI aw 72 (fun _ => 0), aI cI as_ 16 (fun _ => 0), aI cI ao 24 (fun _ => 0), aI cI at_ 1042 (fun _ => 0)] := hD
  refine va_putF (D := (dC, dI)) (ci := 1) (v := .ref at_) (ty := (.array .int)) (C := RX1) (T := TX1) (N := 7) hx hb hts in_X1 tyX1 tyX1_ok nmX1 hown hK hP hD hS 0 rfl rfl 4 (by decide) (hts _ q252) (fun _ h9 => h9) rfl hin rfl (by decide +kernel) rfl rfl (Nat.le_of_ble_eq_true rfl) dX1_init_39 (fun H locs hP hD hS => ?_)
  have hP : va_P (dC, dI) vwCl [(h0, .inr (1, [.ref aw, .int (nI 1), .ref as_, .ref ao, .ref at_, .int 0, .int 0])), aI cI aw 72 (fun _ => 0), aI cI as_ 16 (fun _ => 0), aI cI ao 24 (fun _ => 0), aI cI at_ 1042 (fun _ => 0)] H := hP
  have hD : va_D A [(h0, .inr (1, [.ref aw, .int (nI 1), .ref as_, .ref ao, .ref at_, .int 0, .int 0])), aI cI aw 72 (fun _ => 0), aI cI as_ 16 (fun _ => 0), aI cI ao 24 (fun _ => 0), aI cI at_ 1042 (fun _ => 0)] := hD
  refine W.widen (k := 4) (n := 1154) (by decide) (by decide) ?_
  subst hQe
  subst hAe
  exact W.vret hx hb hr (fun t ht hW => ⟨⟨(aw, as_, ao, at_), rfl, trivial, by rw [ht]; exact hP.sub [0, 1, 2, 3, 4] rfl, hD.sub [0, 1, 2, 3, 4] (by decide) rfl⟩, hS.F ht⟩) hS.2.2 dX1_init_42
set_option maxHeartbeats 4000000 in
set_option maxRecDepth 100000 in
/-- CryptDeskModel.word -/
theorem met_mword (l : Launch) (dC : Nat → ClassId) (dI : Nat → Nat → Nat) (cI cB : ClassId) (h0 aw as_ ao at_ z : Nat) (lf rt : Int32) (fw fs fo ft : Nat → Int32) (x a b c0 : Int32) (sz : Nat) : Met l yX1_word (ws_ yX1_word cX1_word 6 none) ({ frames := 1, cells := 0, slots := 0, locals := 23 } : Room) (cx_Pre (dC, dI) (tyL cI cB) [.ref h0, .int x, .int a, .int b, .int c0] [(h0, .inr (1, [.ref aw, .int (nI z), .ref as_, .ref ao, .ref at_, .int lf, .int rt])), aI cI aw 72 fw, aI cI as_ 16 fs, aI cI ao 24 fo, aI cI at_ 1042 ft] sz cx_No) (cx_Qv (S := Nat → Int32) (dC, dI) [(h0, .inr (1, [.ref aw, .int (nI z), .ref as_, .ref ao, .ref at_, .int lf, .int rt])), aI cI aw 72 fw, aI cI as_ 16 fs, aI cI ao 24 fo, aI cI at_ 1042 ft] sz (fun u => bf_lm3 a b c0 (12 * bf_md x 6) fw u) (fun u => [oMod h0 aw (nI z) as_ ao at_ lf rt, aI cI aw 72 u, aI cI as_ 16 fs, aI cI ao 24 fo, aI cI at_ 1042 ft])) 0 0 (va_A [(h0, .inr (1, [.ref aw, .int (nI z), .ref as_, .ref ao, .ref at_, .int lf, .int rt])), aI cI aw 72 fw, aI cI as_ 16 fs, aI cI ao 24 fo, aI cI at_ 1042 ft] sz) := by
  refine Met.ofW (cc := cX1_word) (maxL := 6) (ret := none) (by decide) rfl ?_
  intro p e s m args below meth c s₁ B hml hv
  obtain ⟨rfl, hsz, hP, hK, hD0, hE⟩ := hv
  have hx := B.exec
  have hb := B.bytes
  have hr := B.returns
  have hts := atoms_spec (ws := (ws_ yX1_word cX1_word 6 none)) B.pre
  have hts : ∀ w ∈ lw_all, w.before _ s = true := fun w h => hts w (List.mem_cons_of_mem _ h)
  have hown : s.vm.findClass RX1 = some m.cls := findClass_of_methodNamed B.named
  have hlocks := B.notSynchronized
  subst hsz
  obtain ⟨A, hAe⟩ : ∃ A : Nat → Prop, A = va_A [(h0, .inr (1, [.ref aw, .int (nI z), .ref as_, .ref ao, .ref at_, .int lf, .int rt])), aI cI aw 72 fw, aI cI as_ 16 fs, aI cI ao 24 fo, aI cI at_ 1042 ft] s.heap.size := ⟨_, rfl⟩
  have hD : va_D A [(h0, .inr (1, [.ref aw, .int (nI z), .ref as_, .ref ao, .ref at_, .int lf, .int rt])), aI cI aw 72 fw, aI cI as_ 16 fs, aI cI ao 24 fo, aI cI at_ 1042 ft] := by rw [hAe]; exact hD0.self
  have hA : ∀ q : Nat, s.heap.size ≤ q → A q := fun q h => by rw [hAe]; exact Or.inr h
  have hS : va_S A s.heap s.heap [] := va_S.rf
  refine cx_Q (fun Q hQe => ?_)
  have hP : va_P (dC, dI) vwCl [(h0, .inr (1, [.ref aw, .int (nI z), .ref as_, .ref ao, .ref at_, .int lf, .int rt])), aI cI aw 72 fw, aI cI as_ 16 fs, aI cI ao 24 fo, aI cI at_ 1042 ft] s.heap := hP
  have hl := lv_entry ([.ref h0, .int x, .int a, .int b, .int c0]) (n := 6) (Nat.le_of_ble_eq_true rfl)
  rw [lg_entry_eq]
  generalize (lg_sl ([.ref h0, .int x, .int a, .int b, .int c0]) ++ List.replicate (6 - (lg_sl ([.ref h0, .int x, .int a, .int b, .int c0])).length) Slot.unset).toArray = ls at hl ⊢
  have hl : lv_has ls 6 [(0, .ref h0), (1, .int x), (2, .int a), (3, .int b), (4, .int c0)] := hl
  have hm6 := bf_md_lt x (d := 6) (by decide)
  refine lv_bipush (v := nI 12) hx hb dX1_word_0 (by decide) ?_
  refine lv_iload_n hx hb dX1_word_2 rfl (lv_at hl 1 rfl) ?_
  refine lv_ldc hx hb hown (hts _ q274) dX1_word_3 ?_
  refine lv_iand hx hb dX1_word_5 ?_
  refine lv_bipush (v := nI 6) hx hb dX1_word_6 (by decide) ?_
  refine lv_irem hx hb dX1_word_8 (by decide) ?_
  refine cx_top (nI (bf_md x 6)) (bf_md_e x 6 (by decide) (by decide)) ?_
  refine lv_imul hx hb dX1_word_9 ?_
  refine cx_top (nI (12 * bf_md x 6)) (pk_mul 12 _) ?_
  refine lv_istore (lv' := [(5, .int (nI (12 * bf_md x 6))), (0, .ref h0), (1, .int x), (2, .int a), (3, .int b), (4, .int c0)]) hx hb dX1_word_10 hl (by decide) rfl (fun ls hl => ?_)
  refine lv_aload_n hx hb dX1_word_12 rfl (lv_at hl 1 rfl) ?_
  refine va_get (D := (dC, dI)) (ci := 1) (v := .ref aw) (C := RX1) (T := TX1) (N := 7) hx hb hts in_X1 hown hK hP 0 rfl rfl 0 (by decide) (hts _ q248) (fun _ h9 => h9) rfl dX1_word_13 ?_
  refine lv_iload hx hb dX1_word_16 (lv_at hl 0 rfl) ?_
  refine lv_iload_n hx hb dX1_word_18 rfl (lv_at hl 3 rfl) ?_
  refine cx_callv (wr := [(h0, .inr (1, [.ref aw, .int (nI z), .ref as_, .ref ao, .ref at_, .int lf, .int rt])), aI cI as_ 16 fs, aI cI ao 24 fo, aI cI at_ 1042 ft]) (va_runS (As := [.ref aw, .int (nI (12 * bf_md x 6)), .int a]) (rest := []) ⟨hx, hb, hml, hown, hts⟩ (met_lay1 l dC dI cI cB aw 72 (12 * bf_md x 6) a fw (by omega) (by decide) s.heap.size) (va_cwS 3 hts (lw_S q275 q276 q12 q277) rfl rfl rfl (by decide +kernel) ⟨Nat.le_of_ble_eq_true rfl, Nat.le_of_ble_eq_true rfl⟩) (cx_preS hP hD hK [1] rfl (by decide) rfl (cx_No_b) (fun _ _ _ => trivial)) rfl rfl hl.1 rfl (lv_room (Nat.le_of_ble_eq_true rfl)) dX1_word_19 ⟨Nat.le_of_ble_eq_true rfl, Nat.le_of_ble_eq_true rfl⟩) hP hD hS hA [1] [0, 2, 3, 4] rfl rfl (by decide) (by decide) (fun u1 H locs hu1 hP hD hS => ?_)
  have hP : va_P (dC, dI) vwCl [(h0, .inr (1, [.ref aw, .int (nI z), .ref as_, .ref ao, .ref at_, .int lf, .int rt])), aI cI as_ 16 fs, aI cI ao 24 fo, aI cI at_ 1042 ft, aI cI aw 72 u1] H := hP
  have hD : va_D A [(h0, .inr (1, [.ref aw, .int (nI z), .ref as_, .ref ao, .ref at_, .int lf, .int rt])), aI cI as_ 16 fs, aI cI ao 24 fo, aI cI at_ 1042 ft, aI cI aw 72 u1] := hD
  refine lv_aload_n hx hb dX1_word_22 rfl (lv_at hl 1 rfl) ?_
  refine va_get (D := (dC, dI)) (ci := 1) (v := .ref aw) (C := RX1) (T := TX1) (N := 7) hx hb hts in_X1 hown hK hP 0 rfl rfl 0 (by decide) (hts _ q248) (fun _ h9 => h9) rfl dX1_word_23 ?_
  refine lv_iload hx hb dX1_word_26 (lv_at hl 0 rfl) ?_
  refine lv_iconst (v := 4) hx hb dX1_word_28 (by decide) ?_
  refine lv_iadd hx hb dX1_word_29 ?_
  refine cx_top (nI (12 * bf_md x 6 + 4)) (nI_add _ 4) ?_
  refine lv_iload_n hx hb dX1_word_30 rfl (lv_at hl 4 rfl) ?_
  refine cx_callv (wr := [(h0, .inr (1, [.ref aw, .int (nI z), .ref as_, .ref ao, .ref at_, .int lf, .int rt])), aI cI as_ 16 fs, aI cI ao 24 fo, aI cI at_ 1042 ft]) (va_runS (As := [.ref aw, .int (nI (12 * bf_md x 6 + 4)), .int b]) (rest := []) ⟨hx, hb, hml, hown, hts⟩ (met_lay1 l dC dI cI cB aw 72 (12 * bf_md x 6 + 4) b u1 (by omega) (by decide) H.size) (va_cwS 3 hts (lw_S q275 q276 q12 q277) rfl rfl rfl (by decide +kernel) ⟨Nat.le_of_ble_eq_true rfl, Nat.le_of_ble_eq_true rfl⟩) (cx_preS hP hD hK [4] rfl (by decide) rfl (cx_No_b) (fun _ _ _ => trivial)) rfl rfl hl.1 rfl (lv_room (Nat.le_of_ble_eq_true rfl)) dX1_word_31 ⟨Nat.le_of_ble_eq_true rfl, Nat.le_of_ble_eq_true rfl⟩) hP hD hS hA [4] [0, 1, 2, 3] rfl rfl (by decide) (by decide) (fun u2 H locs hu2 hP hD hS => ?_)
  have hP : va_P (dC, dI) vwCl [(h0, .inr (1, [.ref aw, .int (nI z), .ref as_, .ref ao, .ref at_, .int lf, .int rt])), aI cI as_ 16 fs, aI cI ao 24 fo, aI cI at_ 1042 ft, aI cI aw 72 u2] H := hP
  have hD : va_D A [(h0, .inr (1, [.ref aw, .int (nI z), .ref as_, .ref ao, .ref at_, .int lf, .int rt])), aI cI as_ 16 fs, aI cI ao 24 fo, aI cI at_ 1042 ft, aI cI aw 72 u2] := hD
  refine lv_aload_n hx hb dX1_word_34 rfl (lv_at hl 1 rfl) ?_
  refine va_get (D := (dC, dI)) (ci := 1) (v := .ref aw) (C := RX1) (T := TX1) (N := 7) hx hb hts in_X1 hown hK hP 0 rfl rfl 0 (by decide) (hts _ q248) (fun _ h9 => h9) rfl dX1_word_35 ?_
  refine lv_iload hx hb dX1_word_38 (lv_at hl 0 rfl) ?_
  refine lv_bipush (v := 8) hx hb dX1_word_40 (by decide) ?_
  refine lv_iadd hx hb dX1_word_42 ?_
  refine cx_top (nI (12 * bf_md x 6 + 8)) (nI_add _ 8) ?_
  refine lv_iload hx hb dX1_word_43 (lv_at hl 5 rfl) ?_
  refine cx_callv (wr := [(h0, .inr (1, [.ref aw, .int (nI z), .ref as_, .ref ao, .ref at_, .int lf, .int rt])), aI cI as_ 16 fs, aI cI ao 24 fo, aI cI at_ 1042 ft]) (va_runS (As := [.ref aw, .int (nI (12 * bf_md x 6 + 8)), .int c0]) (rest := []) ⟨hx, hb, hml, hown, hts⟩ (met_lay1 l dC dI cI cB aw 72 (12 * bf_md x 6 + 8) c0 u2 (by omega) (by decide) H.size) (va_cwS 3 hts (lw_S q275 q276 q12 q277) rfl rfl rfl (by decide +kernel) ⟨Nat.le_of_ble_eq_true rfl, Nat.le_of_ble_eq_true rfl⟩) (cx_preS hP hD hK [4] rfl (by decide) rfl (cx_No_b) (fun _ _ _ => trivial)) rfl rfl hl.1 rfl (lv_room (Nat.le_of_ble_eq_true rfl)) dX1_word_45 ⟨Nat.le_of_ble_eq_true rfl, Nat.le_of_ble_eq_true rfl⟩) hP hD hS hA [4] [0, 1, 2, 3] rfl rfl (by decide) (by decide) (fun u3 H locs hu3 hP hD hS => ?_)
  have hP : va_P (dC, dI) vwCl [(h0, .inr (1, [.ref aw, .int (nI z), .ref as_, .ref ao, .ref at_, .int lf, .int rt])), aI cI as_ 16 fs, aI cI ao 24 fo, aI cI at_ 1042 ft, aI cI aw 72 u3] H := hP
  have hD : va_D A [(h0, .inr (1, [.ref aw, .int (nI z), .ref as_, .ref ao, .ref at_, .int lf, .int rt])), aI cI as_ 16 fs, aI cI ao 24 fo, aI cI at_ 1042 ft, aI cI aw 72 u3] := hD
  subst hQe
  subst hAe
  exact W.vret hx hb hr (fun t ht hW => ⟨⟨u3, rfl, ⟨u1, u2, hu1, hu2, hu3⟩, by rw [ht]; exact hP.sub [0, 4, 1, 2, 3] rfl, hD.sub [0, 4, 1, 2, 3] (by decide) rfl⟩, hS.F ht⟩) hS.2.2 dX1_word_48
set_option maxHeartbeats 4000000 in
set_option maxRecDepth 100000 in
/-- CryptDeskModel.cut -/
theorem met_mcut (l : Launch) (dC : Nat → ClassId) (dI : Nat → Nat → Nat) (cI cB : ClassId) (h0 aw as_ ao at_ z : Nat) (lf rt : Int32) (fw fs fo ft : Nat → Int32) (x : Int32) (sz : Nat) : Met l yX1_cut (ws_ yX1_cut cX1_cut 2 none) ({ frames := 0, cells := 0, slots := 0, locals := 0 } : Room) (cx_Pre (dC, dI) (tyL cI cB) [.ref h0, .int x] [(h0, .inr (1, [.ref aw, .int (nI z), .ref as_, .ref ao, .ref at_, .int lf, .int rt])), aI cI aw 72 fw, aI cI as_ 16 fs, aI cI ao 24 fo, aI cI at_ 1042 ft] sz cx_No) (cx_Qv (S := Unit) (dC, dI) [(h0, .inr (1, [.ref aw, .int (nI z), .ref as_, .ref ao, .ref at_, .int lf, .int rt])), aI cI aw 72 fw, aI cI as_ 16 fs, aI cI ao 24 fo, aI cI at_ 1042 ft] sz (fun u => True) (fun u => [oMod h0 aw (nI (1 + bf_md x 72)) as_ ao at_ lf rt, aI cI aw 72 fw, aI cI as_ 16 fs, aI cI ao 24 fo, aI cI at_ 1042 ft])) 0 0 (va_A [(h0, .inr (1, [.ref aw, .int (nI z), .ref as_, .ref ao, .ref at_, .int lf, .int rt])), aI cI aw 72 fw, aI cI as_ 16 fs, aI cI ao 24 fo, aI cI at_ 1042 ft] sz) := by
  refine Met.ofW (cc := cX1_cut) (maxL := 2) (ret := none) (by decide) rfl ?_
  intro p e s m args below meth c s₁ B hml hv
  obtain ⟨rfl, hsz, hP, hK, hD0, hE⟩ := hv
  have hx := B.exec
  have hb := B.bytes
  have hr := B.returns
  have hts := atoms_spec (ws := (ws_ yX1_cut cX1_cut 2 none)) B.pre
  have hts : ∀ w ∈ lw_all, w.before _ s = true := fun w h => hts w (List.mem_cons_of_mem _ h)
  have hown : s.vm.findClass RX1 = some m.cls := findClass_of_methodNamed B.named
  have hlocks := B.notSynchronized
  subst hsz
  obtain ⟨A, hAe⟩ : ∃ A : Nat → Prop, A = va_A [(h0, .inr (1, [.ref aw, .int (nI z), .ref as_, .ref ao, .ref at_, .int lf, .int rt])), aI cI aw 72 fw, aI cI as_ 16 fs, aI cI ao 24 fo, aI cI at_ 1042 ft] s.heap.size := ⟨_, rfl⟩
  have hD : va_D A [(h0, .inr (1, [.ref aw, .int (nI z), .ref as_, .ref ao, .ref at_, .int lf, .int rt])), aI cI aw 72 fw, aI cI as_ 16 fs, aI cI ao 24 fo, aI cI at_ 1042 ft] := by rw [hAe]; exact hD0.self
  have hA : ∀ q : Nat, s.heap.size ≤ q → A q := fun q h => by rw [hAe]; exact Or.inr h
  have hS : va_S A s.heap s.heap [] := va_S.rf
  refine cx_Q (fun Q hQe => ?_)
  have hP : va_P (dC, dI) vwCl [(h0, .inr (1, [.ref aw, .int (nI z), .ref as_, .ref ao, .ref at_, .int lf, .int rt])), aI cI aw 72 fw, aI cI as_ 16 fs, aI cI ao 24 fo, aI cI at_ 1042 ft] s.heap := hP
  have hl := lv_entry ([.ref h0, .int x]) (n := 2) (Nat.le_of_ble_eq_true rfl)
  rw [lg_entry_eq]
  generalize (lg_sl ([.ref h0, .int x]) ++ List.replicate (2 - (lg_sl ([.ref h0, .int x])).length) Slot.unset).toArray = ls at hl ⊢
  have hl : lv_has ls 2 [(0, .ref h0), (1, .int x)] := hl
  refine lv_aload_n hx hb dX1_cut_0 rfl (lv_at hl 0 rfl) ?_
  refine lv_iconst (v := 1) hx hb dX1_cut_1 (by decide) ?_
  refine lv_iload_n hx hb dX1_cut_2 rfl (lv_at hl 1 rfl) ?_
  refine lv_ldc hx hb hown (hts _ q274) dX1_cut_3 ?_
  refine lv_iand hx hb dX1_cut_5 ?_
  refine lv_bipush (v := nI 72) hx hb dX1_cut_6 (by decide) ?_
  refine lv_irem hx hb dX1_cut_8 (by decide) ?_
  refine cx_top (nI (bf_md x 72)) (bf_md_e x 72 (by decide) (by decide)) ?_
  refine lv_iadd hx hb dX1_cut_9 ?_
  refine cx_top (nI (1 + bf_md x 72)) (nI_add 1 _) ?_
  refine va_put (D := (dC, dI)) (ci := 1) (v := .int (nI (1 + bf_md x 72))) (ty := .int) (C := RX1) (T := TX1) (N := 7) hx hb hts in_X1 tyX1 tyX1_ok nmX1 hown hK hP hD hS 0 rfl rfl 1 (by decide) (hts _ q249) (fun _ h9 => h9) rfl (by decide +kernel) rfl rfl (Nat.le_of_ble_eq_true rfl) dX1_cut_10 (fun H locs hP hD hS => ?_)
  have hP : va_P (dC, dI) vwCl [(h0, .inr (1, [.ref aw, .int (nI (1 + bf_md x 72)), .ref as_, .ref ao, .ref at_, .int lf, .int rt])), aI cI aw 72 fw, aI cI as_ 16 fs, aI cI ao 24 fo, aI cI at_ 1042 ft] H := hP
  have hD : va_D A [(h0, .inr (1, [.ref aw, .int (nI (1 + bf_md x 72)), .ref as_, .ref ao, .ref at_, .int lf, .int rt])), aI cI aw 72 fw, aI cI as_ 16 fs, aI cI ao 24 fo, aI cI at_ 1042 ft] := hD
  subst hQe
  subst hAe
  exact W.vret hx hb hr (fun t ht hW => ⟨⟨(), rfl, trivial, by rw [ht]; exact hP.sub [0, 1, 2, 3, 4] rfl, hD.sub [0, 1, 2, 3, 4] (by decide) rfl⟩, hS.F ht⟩) hS.2.2 dX1_cut_13
set_option maxHeartbeats 4000000 in
set_option maxRecDepth 100000 in
/-- CryptDeskModel.salt -/
theorem met_msalt (l : Launch) (dC : Nat → ClassId) (dI : Nat → Nat → Nat) (cI cB : ClassId) (h0 aw as_ ao at_ z : Nat) (lf rt : Int32) (fw fs fo ft : Nat → Int32) (a b c0 d : Int32) (sz : Nat) : Met l yX1_salt (ws_ yX1_salt cX1_salt 5 none) ({ frames := 1, cells := 0, slots := 0, locals := 23 } : Room) (cx_Pre (dC, dI) (tyL cI cB) [.ref h0, .int a, .int b, .int c0, .int d] [(h0, .inr (1, [.ref aw, .int (nI z), .ref as_, .ref ao, .ref at_, .int lf, .int rt])), aI cI aw 72 fw, aI cI as_ 16 fs, aI cI ao 24 fo, aI cI at_ 1042 ft] sz cx_No) (cx_Qv (S := Nat → Int32) (dC, dI) [(h0, .inr (1, [.ref aw, .int (nI z), .ref as_, .ref ao, .ref at_, .int lf, .int rt])), aI cI aw 72 fw, aI cI as_ 16 fs, aI cI ao 24 fo, aI cI at_ 1042 ft] sz (fun u => bf_lm4 a b c0 d fs u) (fun u => [oMod h0 aw (nI z) as_ ao at_ lf rt, aI cI aw 72 fw, aI cI as_ 16 u, aI cI ao 24 fo, aI cI at_ 1042 ft])) 0 0 (va_A [(h0, .inr (1, [.ref aw, .int (nI z), .ref as_, .ref ao, .ref at_, .int lf, .int rt])), aI cI aw 72 fw, aI cI as_ 16 fs, aI cI ao 24 fo, aI cI at_ 1042 ft] sz) := by
  refine Met.ofW (cc := cX1_salt) (maxL := 5) (ret := none) (by decide) rfl ?_
  intro p e s m args below meth c s₁ B hml hv
  obtain ⟨rfl, hsz, hP, hK, hD0, hE⟩ := hv
  have hx := B.exec
  have hb := B.bytes
  have hr := B.returns
  have hts := atoms_spec (ws := (ws_ yX1_salt cX1_salt 5 none)) B.pre
  have hts : ∀ w ∈ lw_all, w.before _ s = true := fun w h => hts w (List.mem_cons_of_mem _ h)
  have hown : s.vm.findClass RX1 = some m.cls := findClass_of_methodNamed B.named
  have hlocks := B.notSynchronized
  subst hsz
  obtain ⟨A, hAe⟩ : ∃ A : Nat → Prop, A = va_A [(h0, .inr (1, [.ref aw, .int (nI z), .ref as_, .ref ao, .ref at_, .int lf, .int rt])), aI cI aw 72 fw, aI cI as_ 16 fs, aI cI ao 24 fo, aI cI at_ 1042 ft] s.heap.size := ⟨_, rfl⟩
  have hD : va_D A [(h0, .inr (1, [.ref aw, .int (nI z), .ref as_, .ref ao, .ref at_, .int lf, .int rt])), aI cI aw 72 fw, aI cI as_ 16 fs, aI cI ao 24 fo, aI cI at_ 1042 ft] := by rw [hAe]; exact hD0.self
  have hA : ∀ q : Nat, s.heap.size ≤ q → A q := fun q h => by rw [hAe]; exact Or.inr h
  have hS : va_S A s.heap s.heap [] := va_S.rf
  refine cx_Q (fun Q hQe => ?_)
  have hP : va_P (dC, dI) vwCl [(h0, .inr (1, [.ref aw, .int (nI z), .ref as_, .ref ao, .ref at_, .int lf, .int rt])), aI cI aw 72 fw, aI cI as_ 16 fs, aI cI ao 24 fo, aI cI at_ 1042 ft] s.heap := hP
  have hl := lv_entry ([.ref h0, .int a, .int b, .int c0, .int d]) (n := 5) (Nat.le_of_ble_eq_true rfl)
  rw [lg_entry_eq]
  generalize (lg_sl ([.ref h0, .int a, .int b, .int c0, .int d]) ++ List.replicate (5 - (lg_sl ([.ref h0, .int a, .int b, .int c0, .int d])).length) Slot.unset).toArray = ls at hl ⊢
  have hl : lv_has ls 5 [(0, .ref h0), (1, .int a), (2, .int b), (3, .int c0), (4, .int d)] := hl
  refine lv_aload_n hx hb dX1_salt_0 rfl (lv_at hl 0 rfl) ?_
  refine va_get (D := (dC, dI)) (ci := 1) (v := .ref as_) (C := RX1) (T := TX1) (N := 7) hx hb hts in_X1 hown hK hP 0 rfl rfl 2 (by decide) (hts _ q250) (fun _ h9 => h9) rfl dX1_salt_1 ?_
  refine lv_iconst (v := nI 0) hx hb dX1_salt_4 (by decide) ?_
  refine lv_iload_n hx hb dX1_salt_5 rfl (lv_at hl 1 rfl) ?_
  refine cx_callv (wr := [(h0, .inr (1, [.ref aw, .int (nI z), .ref as_, .ref ao, .ref at_, .int lf, .int rt])), aI cI aw 72 fw, aI cI ao 24 fo, aI cI at_ 1042 ft]) (va_runS (As := [.ref as_, .int (nI 0), .int a]) (rest := []) ⟨hx, hb, hml, hown, hts⟩ (met_lay1 l dC dI cI cB as_ 16 (0) a fs (by omega) (by decide) s.heap.size) (va_cwS 3 hts (lw_S q275 q276 q12 q277) rfl rfl rfl (by decide +kernel) ⟨Nat.le_of_ble_eq_true rfl, Nat.le_of_ble_eq_true rfl⟩) (cx_preS hP hD hK [2] rfl (by decide) rfl (cx_No_b) (fun _ _ _ => trivial)) rfl rfl hl.1 rfl (lv_room (Nat.le_of_ble_eq_true rfl)) dX1_salt_6 ⟨Nat.le_of_ble_eq_true rfl, Nat.le_of_ble_eq_true rfl⟩) hP hD hS hA [2] [0, 1, 3, 4] rfl rfl (by decide) (by decide) (fun u1 H locs hu1 hP hD hS => ?_)
  have hP : va_P (dC, dI) vwCl [(h0, .inr (1, [.ref aw, .int (nI z), .ref as_, .ref ao, .ref at_, .int lf, .int rt])), aI cI aw 72 fw, aI cI ao 24 fo, aI cI at_ 1042 ft, aI cI as_ 16 u1] H := hP
  have hD : va_D A [(h0, .inr (1, [.ref aw, .int (nI z), .ref as_, .ref ao, .ref at_, .int lf, .int rt])), aI cI aw 72 fw, aI cI ao 24 fo, aI cI at_ 1042 ft, aI cI as_ 16 u1] := hD
  refine lv_aload_n hx hb dX1_salt_9 rfl (lv_at hl 0 rfl) ?_
  refine va_get (D := (dC, dI)) (ci := 1) (v := .ref as_) (C := RX1) (T := TX1) (N := 7) hx hb hts in_X1 hown hK hP 0 rfl rfl 2 (by decide) (hts _ q250) (fun _ h9 => h9) rfl dX1_salt_10 ?_
  refine lv_iconst (v := nI 4) hx hb dX1_salt_13 (by decide) ?_
  refine lv_iload_n hx hb dX1_salt_14 rfl (lv_at hl 2 rfl) ?_
  refine cx_callv (wr := [(h0, .inr (1, [.ref aw, .int (nI z), .ref as_, .ref ao, .ref at_, .int lf, .int rt])), aI cI aw 72 fw, aI cI ao 24 fo, aI cI at_ 1042 ft]) (va_runS (As := [.ref as_, .int (nI 4), .int b]) (rest := []) ⟨hx, hb, hml, hown, hts⟩ (met_lay1 l dC dI cI cB as_ 16 (4) b u1 (by omega) (by decide) H.size) (va_cwS 3 hts (lw_S q275 q276 q12 q277) rfl rfl rfl (by decide +kernel) ⟨Nat.le_of_ble_eq_true rfl, Nat.le_of_ble_eq_true rfl⟩) (cx_preS hP hD hK [4] rfl (by decide) rfl (cx_No_b) (fun _ _ _ => trivial)) rfl rfl hl.1 rfl (lv_room (Nat.le_of_ble_eq_true rfl)) dX1_salt_15 ⟨Nat.le_of_ble_eq_true rfl, Nat.le_of_ble_eq_true rfl⟩) hP hD hS hA [4] [0, 1, 2, 3] rfl rfl (by decide) (by decide) (fun u2 H locs hu2 hP hD hS => ?_)
  have hP : va_P (dC, dI) vwCl [(h0, .inr (1, [.ref aw, .int (nI z), .ref as_, .ref ao, .ref at_, .int lf, .int rt])), aI cI aw 72 fw, aI cI ao 24 fo, aI cI at_ 1042 ft, aI cI as_ 16 u2] H := hP
  have hD : va_D A [(h0, .inr (1, [.ref aw, .int (nI z), .ref as_, .ref ao, .ref at_, .int lf, .int rt])), aI cI aw 72 fw, aI cI ao 24 fo, aI cI at_ 1042 ft, aI cI as_ 16 u2] := hD
  refine lv_aload_n hx hb dX1_salt_18 rfl (lv_at hl 0 rfl) ?_
  refine va_get (D := (dC, dI)) (ci := 1) (v := .ref as_) (C := RX1) (T := TX1) (N := 7) hx hb hts in_X1 hown hK hP 0 rfl rfl 2 (by decide) (hts _ q250) (fun _ h9 => h9) rfl dX1_salt_19 ?_
  refine lv_bipush (v := nI 8) hx hb dX1_salt_22 (by decide) ?_
  refine lv_iload_n hx hb dX1_salt_24 rfl (lv_at hl 3 rfl) ?_
  refine cx_callv (wr := [(h0, .inr (1, [.ref aw, .int (nI z), .ref as_, .ref ao, .ref at_, .int lf, .int rt])), aI cI aw 72 fw, aI cI ao 24 fo, aI cI at_ 1042 ft]) (va_runS (As := [.ref as_, .int (nI 8), .int c0]) (rest := []) ⟨hx, hb, hml, hown, hts⟩ (met_lay1 l dC dI cI cB as_ 16 (8) c0 u2 (by omega) (by decide) H.size) (va_cwS 3 hts (lw_S q275 q276 q12 q277) rfl rfl rfl (by decide +kernel) ⟨Nat.le_of_ble_eq_true rfl, Nat.le_of_ble_eq_true rfl⟩) (cx_preS hP hD hK [4] rfl (by decide) rfl (cx_No_b) (fun _ _ _ => trivial)) rfl rfl hl.1 rfl (lv_room (Nat.le_of_ble_eq_true rfl)) dX1_salt_25 ⟨Nat.le_of_ble_eq_true rfl, Nat.le_of_ble_eq_true rfl⟩) hP hD hS hA [4] [0, 1, 2, 3] rfl rfl (by decide) (by decide) (fun u3 H locs hu3 hP hD hS => ?_)
  have hP : va_P (dC, dI) vwCl [(h0, .inr (1, [.ref aw, .int (nI z), .ref as_, .ref ao, .ref at_, .int lf, .int rt])), aI cI aw 72 fw, aI cI ao 24 fo, aI cI at_ 1042 ft, aI cI as_ 16 u3] H := hP
  have hD : va_D A [(h0, .inr (1, [.ref aw, .int (nI z), .ref as_, .ref ao, .ref at_, .int lf, .int rt])), aI cI aw 72 fw, aI cI ao 24 fo, aI cI at_ 1042 ft, aI cI as_ 16 u3] := hD
  refine lv_aload_n hx hb dX1_salt_28 rfl (lv_at hl 0 rfl) ?_
  refine va_get (D := (dC, dI)) (ci := 1) (v := .ref as_) (C := RX1) (T := TX1) (N := 7) hx hb hts in_X1 hown hK hP 0 rfl rfl 2 (by decide) (hts _ q250) (fun _ h9 => h9) rfl dX1_salt_29 ?_
  refine lv_bipush (v := nI 12) hx hb dX1_salt_32 (by decide) ?_
  refine lv_iload hx hb dX1_salt_34 (lv_at hl 4 rfl) ?_
  refine cx_callv (wr := [(h0, .inr (1, [.ref aw, .int (nI z), .ref as_, .ref ao, .ref at_, .int lf, .int rt])), aI cI aw 72 fw, aI cI ao 24 fo, aI cI at_ 1042 ft]) (va_runS (As := [.ref as_, .int (nI 12), .int d]) (rest := []) ⟨hx, hb, hml, hown, hts⟩ (met_lay1 l dC dI cI cB as_ 16 (12) d u3 (by omega) (by decide) H.size) (va_cwS 3 hts (lw_S q275 q276 q12 q277) rfl rfl rfl (by decide +kernel) ⟨Nat.le_of_ble_eq_true rfl, Nat.le_of_ble_eq_true rfl⟩) (cx_preS hP hD hK [4] rfl (by decide) rfl (cx_No_b) (fun _ _ _ => trivial)) rfl rfl hl.1 rfl (lv_room (Nat.le_of_ble_eq_true rfl)) dX1_salt_36 ⟨Nat.le_of_ble_eq_true rfl, Nat.le_of_ble_eq_true rfl⟩) hP hD hS hA [4] [0, 1, 2, 3] rfl rfl (by decide) (by decide) (fun u4 H locs hu4 hP hD hS => ?_)
  have hP : va_P (dC, dI) vwCl [(h0, .inr (1, [.ref aw, .int (nI z), .ref as_, .ref ao, .ref at_, .int lf, .int rt])), aI cI aw 72 fw, aI cI ao 24 fo, aI cI at_ 1042 ft, aI cI as_ 16 u4] H := hP
  have hD : va_D A [(h0, .inr (1, [.ref aw, .int (nI z), .ref as_, .ref ao, .ref at_, .int lf, .int rt])), aI cI aw 72 fw, aI cI ao 24 fo, aI cI at_ 1042 ft, aI cI as_ 16 u4] := hD
  subst hQe
  subst hAe
  exact W.vret hx hb hr (fun t ht hW => ⟨⟨u4, rfl, ⟨u1, u2, u3, hu1, hu2, hu3, hu4⟩, by rw [ht]; exact hP.sub [0, 1, 4, 2, 3] rfl, hD.sub [0, 1, 4, 2, 3] (by decide) rfl⟩, hS.F ht⟩) hS.2.2 dX1_salt_39
set_option maxHeartbeats 4000000 in
set_option maxRecDepth 100000 in
/-- CryptDeskModel.out -/
theorem met_mout (l : Launch) (dC : Nat → ClassId) (dI : Nat → Nat → Nat) (cI cB : ClassId) (h0 aw as_ ao at_ z : Nat) (lf rt : Int32) (fw fs fo ft : Nat → Int32) (x : Int32) : Met l yX1_out (ws_ yX1_out cX1_out 2 (some .int)) ({ frames := 0, cells := 0, slots := 0, locals := 0 } : Room) (cx_Pp (dC, dI) (tyL cI cB) [.ref h0, .int x] [(h0, .inr (1, [.ref aw, .int (nI z), .ref as_, .ref ao, .ref at_, .int lf, .int rt])), aI cI aw 72 fw, aI cI as_ 16 fs, aI cI ao 24 fo, aI cI at_ 1042 ft]) (vp_Si (fun r => r = fo (bf_md x 24))) 0 0 (fun _ => False) := by
  refine Met.ofW (cc := cX1_out) (maxL := 2) (ret := (some .int)) (by decide) rfl ?_
  intro p e s m args below meth c s₁ B hml hv
  obtain ⟨rfl, hP, hK⟩ := hv
  have hx := B.exec
  have hb := B.bytes
  have hr := B.returns
  have hts := atoms_spec (ws := (ws_ yX1_out cX1_out 2 (some .int))) B.pre
  have hts : ∀ w ∈ lw_all, w.before _ s = true := fun w h => hts w (List.mem_cons_of_mem _ h)
  have hown : s.vm.findClass RX1 = some m.cls := findClass_of_methodNamed B.named
  have hlocks := B.notSynchronized
  refine cx_Q (fun Q hQe => ?_)
  have hP : va_P (dC, dI) vwCl [(h0, .inr (1, [.ref aw, .int (nI z), .ref as_, .ref ao, .ref at_, .int lf, .int rt])), aI cI aw 72 fw, aI cI as_ 16 fs, aI cI ao 24 fo, aI cI at_ 1042 ft] s.heap := hP
  have hl := lv_entry ([.ref h0, .int x]) (n := 2) (Nat.le_of_ble_eq_true rfl)
  rw [lg_entry_eq]
  generalize (lg_sl ([.ref h0, .int x]) ++ List.replicate (2 - (lg_sl ([.ref h0, .int x])).length) Slot.unset).toArray = ls at hl ⊢
  have hl : lv_has ls 2 [(0, .ref h0), (1, .int x)] := hl
  refine lv_aload_n hx hb dX1_out_0 rfl (lv_at hl 0 rfl) ?_
  refine va_get (D := (dC, dI)) (ci := 1) (v := .ref ao) (C := RX1) (T := TX1) (N := 7) hx hb hts in_X1 hown hK hP 0 rfl rfl 3 (by decide) (hts _ q251) (fun _ h9 => h9) rfl dX1_out_1 ?_
  refine lv_iload_n hx hb dX1_out_4 rfl (lv_at hl 1 rfl) ?_
  refine lv_ldc hx hb hown (hts _ q274) dX1_out_5 ?_
  refine lv_iand hx hb dX1_out_7 ?_
  refine lv_bipush (v := nI 24) hx hb dX1_out_8 (by decide) ?_
  refine lv_irem hx hb dX1_out_10 (by decide) ?_
  refine cx_top (nI (bf_md x 24)) (bf_md_e x 24 (by decide) (by decide)) ?_
  refine cx_iald hx hb hK hP 3 0 rfl rfl (bf_md x 24) (rfl) (bf_md_lt x (by decide)) (by decide) dX1_out_11 ?_
  subst hQe
  exact W.iret (v := fo (bf_md x 24)) hx hb hr (fun t ht hW => ⟨_, rfl, rfl, ht⟩) (fun q h => by cases h) dX1_out_12
set_option maxHeartbeats 4000000 in
set_option maxRecDepth 100000 in
/-- CryptDeskModel.lock -/
theorem met_lock (l : Launch) (dC : Nat → ClassId) (dI : Nat → Nat → Nat) (cI cB : ClassId) (h0 aw as_ ao at_ z : Nat) (lf rt : Int32) (ft : Nat → Int32) (sz : Nat) : Met l yX1_lock (ws_ yX1_lock cX1_lock 6 none) ({ frames := 0, cells := 0, slots := 0, locals := 0 } : Room) (cx_Pre (dC, dI) (tyL cI cB) [.ref h0] [(h0, .inr (1, [.ref aw, .int (nI z), .ref as_, .ref ao, .ref at_, .int lf, .int rt])), aI cI at_ 1042 ft] sz cx_No) (cx_Qv (S := Unit) (dC, dI) [(h0, .inr (1, [.ref aw, .int (nI z), .ref as_, .ref ao, .ref at_, .int lf, .int rt])), aI cI at_ 1042 ft] sz (fun u => True) (fun u => [oMod h0 aw (nI z) as_ ao at_ (bf_enc ft (bf_S ft) (lf, rt)).1 (bf_enc ft (bf_S ft) (lf, rt)).2, aI cI at_ 1042 ft])) 0 0 (va_A [(h0, .inr (1, [.ref aw, .int (nI z), .ref as_, .ref ao, .ref at_, .int lf, .int rt])), aI cI at_ 1042 ft] sz) := by
  refine Met.ofW (cc := cX1_lock) (maxL := 6) (ret := none) (by decide) rfl ?_
  intro p e s m args below meth c s₁ B hml hv
  obtain ⟨rfl, hsz, hP, hK, hD0, hE⟩ := hv
  have hx := B.exec
  have hb := B.bytes
  have hr := B.returns
  have hts := atoms_spec (ws := (ws_ yX1_lock cX1_lock 6 none)) B.pre
  have hts : ∀ w ∈ lw_all, w.before _ s = true := fun w h => hts w (List.mem_cons_of_mem _ h)
  have hown : s.vm.findClass RX1 = some m.cls := findClass_of_methodNamed B.named
  have hlocks := B.notSynchronized
  subst hsz
  obtain ⟨A, hAe⟩ : ∃ A : Nat → Prop, A = va_A [(h0, .inr (1, [.ref aw, .int (nI z), .ref as_, .ref ao, .ref at_, .int lf, .int rt])), aI cI at_ 1042 ft] s.heap.size := ⟨_, rfl⟩
  have hD : va_D A [(h0, .inr (1, [.ref aw, .int (nI z), .ref as_, .ref ao, .ref at_, .int lf, .int rt])), aI cI at_ 1042 ft] := by rw [hAe]; exact hD0.self
  have hA : ∀ q : Nat, s.heap.size ≤ q → A q := fun q h => by rw [hAe]; exact Or.inr h
  have hS : va_S A s.heap s.heap [] := va_S.rf
  refine cx_Q (fun Q hQe => ?_)
  have hP : va_P (dC, dI) vwCl [(h0, .inr (1, [.ref aw, .int (nI z), .ref as_, .ref ao, .ref at_, .int lf, .int rt])), aI cI at_ 1042 ft] s.heap := hP
  have hl := lv_entry ([.ref h0]) (n := 6) (Nat.le_of_ble_eq_true rfl)
  rw [lg_entry_eq]
  generalize (lg_sl ([.ref h0]) ++ List.replicate (6 - (lg_sl ([.ref h0])).length) Slot.unset).toArray = ls at hl ⊢
  have hl : lv_has ls 6 [(0, .ref h0)] := hl
  refine lv_aload_n hx hb dX1_lock_0 rfl (lv_at hl 0 rfl) ?_
  refine va_get (D := (dC, dI)) (ci := 1) (v := .int lf) (C := RX1) (T := TX1) (N := 7) hx hb hts in_X1 hown hK hP 0 rfl rfl 5 (by decide) (hts _ q253) (fun _ h9 => h9) rfl dX1_lock_1 ?_
  refine lv_istore_n (lv' := [(1, .int lf), (0, .ref h0)]) hx hb dX1_lock_4 rfl hl (by decide) rfl (fun ls hl => ?_)
  refine lv_aload_n hx hb dX1_lock_5 rfl (lv_at hl 1 rfl) ?_
  refine va_get (D := (dC, dI)) (ci := 1) (v := .int rt) (C := RX1) (T := TX1) (N := 7) hx hb hts in_X1 hown hK hP 0 rfl rfl 6 (by decide) (hts _ q254) (fun _ h9 => h9) rfl dX1_lock_6 ?_
  refine lv_istore_n (lv' := [(2, .int rt), (1, .int lf), (0, .ref h0)]) hx hb dX1_lock_9 rfl hl (by decide) rfl (fun ls hl => ?_)
  refine lv_iconst (v := nI 0) hx hb dX1_lock_10 (by decide) ?_
  refine lv_istore_n (lv' := [(3, .int (nI 0)), (2, .int rt), (1, .int lf), (0, .ref h0)]) hx hb dX1_lock_11 rfl hl (by decide) rfl (fun ls hl => ?_)
  have loop : ∀ (k i : Nat), i + k = 16 → ∀ (yl yr : Int32) (ls : Array Slot), yl = (bf_rds ft (bf_S ft) i (lf, rt)).1 → yr = (bf_rds ft (bf_S ft) i (lf, rt)).2 → lv_has ls 6 [(0, .ref h0), (1, .int yl), (2, .int yr), (3, .int (nI i))] → W p l e (headSpec (ws_ yX1_lock cX1_lock 6 none) ({ frames := 0, cells := 0, slots := 0, locals := 0 } : Room)).room s m ([.ref h0] : List Value).toArray below meth c s.heap [] 0 0 Q (F0 m 12 ls []) := by
    intro k
    induction k with
    | zero =>
      intro i hi yl yr ls hyl hyr hl
      refine lv_iload_n hx hb dX1_lock_12 rfl (lv_at hl 3 rfl) ?_
      refine lv_bipush (v := nI 16) hx hb dX1_lock_13 (by decide) ?_
      refine lv_icmp_ge (tgt := 109) hx hb dX1_lock_15 (by decide) (fun _ => ?_) (fun c9 => absurd (nI_le (by omega) (by omega)) c9)
      refine lv_aload_n hx hb dX1_lock_109 rfl (lv_at hl 0 rfl) ?_
      refine lv_iload_n hx hb dX1_lock_110 rfl (lv_at hl 2 rfl) ?_
      refine lv_aload_n hx hb dX1_lock_111 rfl (lv_at hl 0 rfl) ?_
      refine va_get (D := (dC, dI)) (ci := 1) (v := .ref at_) (C := RX1) (T := TX1) (N := 7) hx hb hts in_X1 hown hK hP 0 rfl rfl 4 (by decide) (hts _ q252) (fun _ h9 => h9) rfl dX1_lock_112 ?_
      refine lv_bipush (v := 17) hx hb dX1_lock_115 (by decide) ?_
      refine cx_iald hx hb hK hP 1 0 rfl rfl (17) (rfl) (by decide) (by decide) dX1_lock_117 ?_
      refine lv_ixor hx hb dX1_lock_118 ?_
      refine cx_top ((bf_enc ft (bf_S ft) (lf, rt)).1) (by rw [hyr, show i = 16 by omega]; rfl) ?_
      refine va_put (D := (dC, dI)) (ci := 1) (v := .int ((bf_enc ft (bf_S ft) (lf, rt)).1)) (ty := .int) (C := RX1) (T := TX1) (N := 7) hx hb hts in_X1 tyX1 tyX1_ok nmX1 hown hK hP hD hS 0 rfl rfl 5 (by decide) (hts _ q253) (fun _ h9 => h9) rfl (by decide +kernel) rfl rfl (Nat.le_of_ble_eq_true rfl) dX1_lock_119 (fun H locs hP hD hS => ?_)
      have hP : va_P (dC, dI) vwCl [(h0, .inr (1, [.ref aw, .int (nI z), .ref as_, .ref ao, .ref at_, .int ((bf_enc ft (bf_S ft) (lf, rt)).1), .int rt])), aI cI at_ 1042 ft] H := hP
      have hD : va_D A [(h0, .inr (1, [.ref aw, .int (nI z), .ref as_, .ref ao, .ref at_, .int ((bf_enc ft (bf_S ft) (lf, rt)).1), .int rt])), aI cI at_ 1042 ft] := hD
      refine lv_aload_n hx hb dX1_lock_122 rfl (lv_at hl 0 rfl) ?_
      refine lv_iload_n hx hb dX1_lock_123 rfl (lv_at hl 1 rfl) ?_
      refine lv_aload_n hx hb dX1_lock_124 rfl (lv_at hl 0 rfl) ?_
      refine va_get (D := (dC, dI)) (ci := 1) (v := .ref at_) (C := RX1) (T := TX1) (N := 7) hx hb hts in_X1 hown hK hP 0 rfl rfl 4 (by decide) (hts _ q252) (fun _ h9 => h9) rfl dX1_lock_125 ?_
      refine lv_bipush (v := 16) hx hb dX1_lock_128 (by decide) ?_
      refine cx_iald hx hb hK hP 1 0 rfl rfl (16) (rfl) (by decide) (by decide) dX1_lock_130 ?_
      refine lv_ixor hx hb dX1_lock_131 ?_
      refine cx_top ((bf_enc ft (bf_S ft) (lf, rt)).2) (by rw [hyl, show i = 16 by omega]; rfl) ?_
      refine va_put (D := (dC, dI)) (ci := 1) (v := .int ((bf_enc ft (bf_S ft) (lf, rt)).2)) (ty := .int) (C := RX1) (T := TX1) (N := 7) hx hb hts in_X1 tyX1 tyX1_ok nmX1 hown hK hP hD hS 0 rfl rfl 6 (by decide) (hts _ q254) (fun _ h9 => h9) rfl (by decide +kernel) rfl rfl (Nat.le_of_ble_eq_true rfl) dX1_lock_132 (fun H locs hP hD hS => ?_)
      have hP : va_P (dC, dI) vwCl [(h0, .inr (1, [.ref aw, .int (nI z), .ref as_, .ref ao, .ref at_, .int ((bf_enc ft (bf_S ft) (lf, rt)).1), .int ((bf_enc ft (bf_S ft) (lf, rt)).2)])), aI cI at_ 1042 ft] H := hP
      have hD : va_D A [(h0, .inr (1, [.ref aw, .int (nI z), .ref as_, .ref ao, .ref at_, .int ((bf_enc ft (bf_S ft) (lf, rt)).1), .int ((bf_enc ft (bf_S ft) (lf, rt)).2)])), aI cI at_ 1042 ft] := hD
      subst hQe
      subst hAe
      exact W.vret hx hb hr (fun t ht hW => ⟨⟨(), rfl, trivial, by rw [ht]; exact hP.sub [0, 1] rfl, hD.sub [0, 1] (by decide) rfl⟩, hS.F ht⟩) hS.2.2 dX1_lock_135
    | succ k ih =>
      intro i hi yl yr ls hyl hyr hl
      refine lv_iload_n hx hb dX1_lock_12 rfl (lv_at hl 3 rfl) ?_
      refine lv_bipush (v := nI 16) hx hb dX1_lock_13 (by decide) ?_
      refine lv_icmp_ge (tgt := 109) hx hb dX1_lock_15 (by decide) (fun c9 => absurd c9 (nI_ge (by omega) (by omega))) (fun _ => ?_)
      refine lv_iload_n hx hb dX1_lock_18 rfl (lv_at hl 1 rfl) ?_
      refine lv_aload_n hx hb dX1_lock_19 rfl (lv_at hl 0 rfl) ?_
      refine va_get (D := (dC, dI)) (ci := 1) (v := .ref at_) (C := RX1) (T := TX1) (N := 7) hx hb hts in_X1 hown hK hP 0 rfl rfl 4 (by decide) (hts _ q252) (fun _ h9 => h9) rfl dX1_lock_20 ?_
      refine lv_iload_n hx hb dX1_lock_23 rfl (lv_at hl 3 rfl) ?_
      refine cx_iald hx hb hK hP 1 0 rfl rfl (i) (rfl) (by omega) (by decide) dX1_lock_24 ?_
      refine lv_ixor hx hb dX1_lock_25 ?_
      refine lv_topi (fun v1 ev1 => ?_)
      refine lv_istore_n (lv' := [(1, .int v1), (0, .ref h0), (2, .int yr), (3, .int (nI i))]) hx hb dX1_lock_26 rfl hl (by decide) rfl (fun ls hl => ?_)
      refine lv_aload_n hx hb dX1_lock_27 rfl (lv_at hl 1 rfl) ?_
      refine va_get (D := (dC, dI)) (ci := 1) (v := .ref at_) (C := RX1) (T := TX1) (N := 7) hx hb hts in_X1 hown hK hP 0 rfl rfl 4 (by decide) (hts _ q252) (fun _ h9 => h9) rfl dX1_lock_28 ?_
      refine lv_bipush (v := 18) hx hb dX1_lock_31 (by decide) ?_
      refine lv_iload_n hx hb dX1_lock_33 rfl (lv_at hl 0 rfl) ?_
      refine lv_bipush (v := 24) hx hb dX1_lock_34 (by decide) ?_
      refine lv_iushr hx hb dX1_lock_36 rfl ?_
      refine lv_iadd hx hb dX1_lock_37 ?_
      refine cx_top (nI (18 + bb3 v1)) (by rw [ix3, show 18 + bb3 v1 = 18 + bb3 v1 by omega]; exact nI_add 18 (bb3 v1)) ?_
      refine cx_iald hx hb hK hP 1 0 rfl rfl (18 + bb3 v1) (rfl) (by have := bb3_lt v1; omega) (by decide) dX1_lock_38 ?_
      refine lv_aload_n hx hb dX1_lock_39 rfl (lv_at hl 1 rfl) ?_
      refine va_get (D := (dC, dI)) (ci := 1) (v := .ref at_) (C := RX1) (T := TX1) (N := 7) hx hb hts in_X1 hown hK hP 0 rfl rfl 4 (by decide) (hts _ q252) (fun _ h9 => h9) rfl dX1_lock_40 ?_
      refine lv_sipush (v := 274) hx hb dX1_lock_43 (by decide) ?_
      refine lv_iload_n hx hb dX1_lock_46 rfl (lv_at hl 0 rfl) ?_
      refine lv_bipush (v := 16) hx hb dX1_lock_47 (by decide) ?_
      refine lv_iushr hx hb dX1_lock_49 rfl ?_
      refine lv_sipush (v := 255) hx hb dX1_lock_50 (by decide) ?_
      refine lv_iand hx hb dX1_lock_53 ?_
      refine lv_iadd hx hb dX1_lock_54 ?_
      refine cx_top (nI (18 + (256 + bb2 v1))) (by rw [ix2, show 18 + (256 + bb2 v1) = 274 + bb2 v1 by omega]; exact nI_add 274 (bb2 v1)) ?_
      refine cx_iald hx hb hK hP 1 0 rfl rfl (18 + (256 + bb2 v1)) (rfl) (by have := bb2_lt v1; omega) (by decide) dX1_lock_55 ?_
      refine lv_iadd hx hb dX1_lock_56 ?_
      refine lv_aload_n hx hb dX1_lock_57 rfl (lv_at hl 1 rfl) ?_
      refine va_get (D := (dC, dI)) (ci := 1) (v := .ref at_) (C := RX1) (T := TX1) (N := 7) hx hb hts in_X1 hown hK hP 0 rfl rfl 4 (by decide) (hts _ q252) (fun _ h9 => h9) rfl dX1_lock_58 ?_
      refine lv_sipush (v := 530) hx hb dX1_lock_61 (by decide) ?_
      refine lv_iload_n hx hb dX1_lock_64 rfl (lv_at hl 0 rfl) ?_
      refine lv_bipush (v := 8) hx hb dX1_lock_65 (by decide) ?_
      refine lv_iushr hx hb dX1_lock_67 rfl ?_
      refine lv_sipush (v := 255) hx hb dX1_lock_68 (by decide) ?_
      refine lv_iand hx hb dX1_lock_71 ?_
      refine lv_iadd hx hb dX1_lock_72 ?_
      refine cx_top (nI (18 + (512 + bb1 v1))) (by rw [ix1, show 18 + (512 + bb1 v1) = 530 + bb1 v1 by omega]; exact nI_add 530 (bb1 v1)) ?_
      refine cx_iald hx hb hK hP 1 0 rfl rfl (18 + (512 + bb1 v1)) (rfl) (by have := bb1_lt v1; omega) (by decide) dX1_lock_73 ?_
      refine lv_ixor hx hb dX1_lock_74 ?_
      refine lv_aload_n hx hb dX1_lock_75 rfl (lv_at hl 1 rfl) ?_
      refine va_get (D := (dC, dI)) (ci := 1) (v := .ref at_) (C := RX1) (T := TX1) (N := 7) hx hb hts in_X1 hown hK hP 0 rfl rfl 4 (by decide) (hts _ q252) (fun _ h9 => h9) rfl dX1_lock_76 ?_
      refine lv_sipush (v := 786) hx hb dX1_lock_79 (by decide) ?_
      refine lv_iload_n hx hb dX1_lock_82 rfl (lv_at hl 0 rfl) ?_
      refine lv_sipush (v := 255) hx hb dX1_lock_83 (by decide) ?_
      refine lv_iand hx hb dX1_lock_86 ?_
      refine lv_iadd hx hb dX1_lock_87 ?_
      refine cx_top (nI (18 + (768 + bb0 v1))) (by rw [ix0, show 18 + (768 + bb0 v1) = 786 + bb0 v1 by omega]; exact nI_add 786 (bb0 v1)) ?_
      refine cx_iald hx hb hK hP 1 0 rfl rfl (18 + (768 + bb0 v1)) (rfl) (by have := bb0_lt v1; omega) (by decide) dX1_lock_88 ?_
      refine lv_iadd hx hb dX1_lock_89 ?_
      refine cx_top (bf_F (bf_S ft) v1) (rfl) ?_
      refine lv_istore (lv' := [(4, .int (bf_F (bf_S ft) v1)), (1, .int v1), (0, .ref h0), (2, .int yr), (3, .int (nI i))]) hx hb dX1_lock_90 hl (by decide) rfl (fun ls hl => ?_)
      refine lv_iload_n hx hb dX1_lock_92 rfl (lv_at hl 3 rfl) ?_
      refine lv_iload hx hb dX1_lock_93 (lv_at hl 0 rfl) ?_
      refine lv_ixor hx hb dX1_lock_95 ?_
      refine lv_topi (fun vt evt => ?_)
      refine lv_istore (lv' := [(5, .int vt), (4, .int (bf_F (bf_S ft) v1)), (1, .int v1), (0, .ref h0), (2, .int yr), (3, .int (nI i))]) hx hb dX1_lock_96 hl (by decide) rfl (fun ls hl => ?_)
      refine lv_iload_n hx hb dX1_lock_98 rfl (lv_at hl 2 rfl) ?_
      refine lv_istore_n (lv' := [(2, .int v1), (5, .int vt), (4, .int (bf_F (bf_S ft) v1)), (1, .int v1), (0, .ref h0), (3, .int (nI i))]) hx hb dX1_lock_99 rfl hl (by decide) rfl (fun ls hl => ?_)
      refine lv_iload hx hb dX1_lock_100 (lv_at hl 1 rfl) ?_
      refine lv_istore_n (lv' := [(1, .int vt), (2, .int v1), (5, .int vt), (4, .int (bf_F (bf_S ft) v1)), (0, .ref h0), (3, .int (nI i))]) hx hb dX1_lock_102 rfl hl (by decide) rfl (fun ls hl => ?_)
      refine lv_iinc (v := nI (i + 1)) (lv' := [(3, .int (nI (i + 1))), (1, .int vt), (2, .int v1), (5, .int vt), (4, .int (bf_F (bf_S ft) v1)), (0, .ref h0)]) hx hb dX1_lock_103 hl (k := 5) rfl (nI_1 i) (by decide) rfl (fun ls hl => ?_)
      refine lv_goto (tgt := 12) hx hb dX1_lock_106 (by decide) ?_
      obtain ⟨g1, g2⟩ := bf_rd_nx hyl hyr ev1 evt
      exact ih (i + 1) (by omega) vt v1 ls g1 g2 (lv_sub hl [5, 1, 2, 0] rfl)
  exact loop 16 0 (by omega) lf rt ls rfl rfl (lv_sub hl [3, 2, 1, 0] rfl)
set_option maxHeartbeats 4000000 in
set_option maxRecDepth 100000 in
/-- CryptDeskModel.spread -/
theorem met_spread (l : Launch) (dC : Nat → ClassId) (dI : Nat → Nat → Nat) (cI cB : ClassId) (h0 aw as_ ao at_ z : Nat) (lf rt : Int32) (ft : Nat → Int32) (ak ah N n : Nat) (gk gw : Nat → Int32) (hn : 0 < n) (hnN : n ≤ N) (hN : N < 2 ^ 30) (sz : Nat) : Met l yX1_spread (ws_ yX1_spread cX1_spread 5 none) ({ frames := 1, cells := 0, slots := 0, locals := 25 } : Room) (cx_Pre (dC, dI) (tyL cI cB) [.ref h0, .ref ak, .int (nI n), .ref ah] [(h0, .inr (1, [.ref aw, .int (nI z), .ref as_, .ref ao, .ref at_, .int lf, .int rt])), aI cI at_ 1042 ft, aI cI ak N gk, aI cI ah 16 gw] sz cx_No) (cx_Qv (S := Int32 × Int32) (dC, dI) [(h0, .inr (1, [.ref aw, .int (nI z), .ref as_, .ref ao, .ref at_, .int lf, .int rt])), aI cI at_ 1042 ft, aI cI ak N gk, aI cI ah 16 gw] sz (fun u => True) (fun u => [oMod h0 aw (nI z) as_ ao at_ u.1 u.2, aI cI at_ 1042 (bf_spr (bf_kf gk n) (bf_ws gw) ft), aI cI ak N gk, aI cI ah 16 gw])) 0 0 (va_A [(h0, .inr (1, [.ref aw, .int (nI z), .ref as_, .ref ao, .ref at_, .int lf, .int rt])), aI cI at_ 1042 ft, aI cI ak N gk, aI cI ah 16 gw] sz) := by
  refine Met.ofW (cc := cX1_spread) (maxL := 5) (ret := none) (by decide) rfl ?_
  intro p e s m args below meth c s₁ B hml hv
  obtain ⟨rfl, hsz, hP, hK, hD0, hE⟩ := hv
  have hx := B.exec
  have hb := B.bytes
  have hr := B.returns
  have hts := atoms_spec (ws := (ws_ yX1_spread cX1_spread 5 none)) B.pre
  have hts : ∀ w ∈ lw_all, w.before _ s = true := fun w h => hts w (List.mem_cons_of_mem _ h)
  have hown : s.vm.findClass RX1 = some m.cls := findClass_of_methodNamed B.named
  have hlocks := B.notSynchronized
  subst hsz
  obtain ⟨A, hAe⟩ : ∃ A : Nat → Prop, A = va_A [(h0, .inr (1, [.ref aw, .int (nI z), .ref as_, .ref ao, .ref at_, .int lf, .int rt])), aI cI at_ 1042 ft, aI cI ak N gk, aI cI ah 16 gw] s.heap.size := ⟨_, rfl⟩
  have hD : va_D A [(h0, .inr (1, [.ref aw, .int (nI z), .ref as_, .ref ao, .ref at_, .int lf, .int rt])), aI cI at_ 1042 ft, aI cI ak N gk, aI cI ah 16 gw] := by rw [hAe]; exact hD0.self
  have hA : ∀ q : Nat, s.heap.size ≤ q → A q := fun q h => by rw [hAe]; exact Or.inr h
  have hS : va_S A s.heap s.heap [] := va_S.rf
  refine cx_Q (fun Q hQe => ?_)
  have hP : va_P (dC, dI) vwCl [(h0, .inr (1, [.ref aw, .int (nI z), .ref as_, .ref ao, .ref at_, .int lf, .int rt])), aI cI at_ 1042 ft, aI cI ak N gk, aI cI ah 16 gw] s.heap := hP
  have hl := lv_entry ([.ref h0, .ref ak, .int (nI n), .ref ah]) (n := 5) (Nat.le_of_ble_eq_true rfl)
  rw [lg_entry_eq]
  generalize (lg_sl ([.ref h0, .ref ak, .int (nI n), .ref ah]) ++ List.replicate (5 - (lg_sl ([.ref h0, .ref ak, .int (nI n), .ref ah])).length) Slot.unset).toArray = ls at hl ⊢
  have hl : lv_has ls 5 [(0, .ref h0), (1, .ref ak), (2, .int (nI n)), (3, .ref ah)] := hl
  refine lv_iconst (v := nI 0) hx hb dX1_spread_0 (by decide) ?_
  refine lv_istore (lv' := [(4, .int (nI 0)), (0, .ref h0), (1, .ref ak), (2, .int (nI n)), (3, .ref ah)]) hx hb dX1_spread_1 hl (by decide) rfl (fun ls hl => ?_)
  have loop : ∀ (k i : Nat), i + k = 18 → ∀ (f : Nat → Int32) (H : Heap) (locs : List Loc) (ls : Array Slot), (∀ j, f j = if j < i then ft j ^^^ (bf_kf gk n) j else ft j) → va_P (dC, dI) vwCl [(h0, .inr (1, [.ref aw, .int (nI z), .ref as_, .ref ao, .ref at_, .int lf, .int rt])), aI cI at_ 1042 f, aI cI ak N gk, aI cI ah 16 gw] H → va_D A [(h0, .inr (1, [.ref aw, .int (nI z), .ref as_, .ref ao, .ref at_, .int lf, .int rt])), aI cI at_ 1042 f, aI cI ak N gk, aI cI ah 16 gw] → va_S A s.heap H locs → lv_has ls 5 [(0, .ref h0), (1, .ref ak), (2, .int (nI n)), (3, .ref ah), (4, .int (nI i))] → W p l e (headSpec (ws_ yX1_spread cX1_spread 5 none) ({ frames := 1, cells := 0, slots := 0, locals := 25 } : Room)).room s m ([.ref h0, .ref ak, .int (nI n), .ref ah] : List Value).toArray below meth c H locs 0 0 Q (F0 m 3 ls []) := by
    intro k
    induction k with
    | zero =>
      intro i hi f H locs ls hf hP hD hS hl
      have hfk : f = bf_key (bf_kf gk n) ft := bf_keyx (by rw [show i = 18 by omega] at hf; exact hf)
      refine lv_iload hx hb dX1_spread_3 (lv_at hl 4 rfl) ?_
      refine lv_bipush (v := nI 18) hx hb dX1_spread_5 (by decide) ?_
      refine lv_icmp_ge (tgt := 40) hx hb dX1_spread_7 (by decide) (fun _ => ?_) (fun c9 => absurd (nI_le (by omega) (by omega)) c9)
      refine lv_aload_n hx hb dX1_spread_40 rfl (lv_at hl 0 rfl) ?_
      refine lv_iconst (v := 0) hx hb dX1_spread_41 (by decide) ?_
      refine va_put (D := (dC, dI)) (ci := 1) (v := .int 0) (ty := .int) (C := RX1) (T := TX1) (N := 7) hx hb hts in_X1 tyX1 tyX1_ok nmX1 hown hK hP hD hS 0 rfl rfl 5 (by decide) (hts _ q253) (fun _ h9 => h9) rfl (by decide +kernel) rfl rfl (Nat.le_of_ble_eq_true rfl) dX1_spread_42 (fun H locs hP hD hS => ?_)
      have hP : va_P (dC, dI) vwCl [(h0, .inr (1, [.ref aw, .int (nI z), .ref as_, .ref ao, .ref at_, .int 0, .int rt])), aI cI at_ 1042 f, aI cI ak N gk, aI cI ah 16 gw] H := hP
      have hD : va_D A [(h0, .inr (1, [.ref aw, .int (nI z), .ref as_, .ref ao, .ref at_, .int 0, .int rt])), aI cI at_ 1042 f, aI cI ak N gk, aI cI ah 16 gw] := hD
      refine lv_aload_n hx hb dX1_spread_45 rfl (lv_at hl 0 rfl) ?_
      refine lv_iconst (v := 0) hx hb dX1_spread_46 (by decide) ?_
      refine va_put (D := (dC, dI)) (ci := 1) (v := .int 0) (ty := .int) (C := RX1) (T := TX1) (N := 7) hx hb hts in_X1 tyX1 tyX1_ok nmX1 hown hK hP hD hS 0 rfl rfl 6 (by decide) (hts _ q254) (fun _ h9 => h9) rfl (by decide +kernel) rfl rfl (Nat.le_of_ble_eq_true rfl) dX1_spread_47 (fun H locs hP hD hS => ?_)
      have hP : va_P (dC, dI) vwCl [(h0, .inr (1, [.ref aw, .int (nI z), .ref as_, .ref ao, .ref at_, .int 0, .int 0])), aI cI at_ 1042 f, aI cI ak N gk, aI cI ah 16 gw] H := hP
      have hD : va_D A [(h0, .inr (1, [.ref aw, .int (nI z), .ref as_, .ref ao, .ref at_, .int 0, .int 0])), aI cI at_ 1042 f, aI cI ak N gk, aI cI ah 16 gw] := hD
      refine lv_iconst (v := nI (2 * 0)) hx hb dX1_spread_50 (by decide) ?_
      refine lv_istore (lv' := [(4, .int (nI (2 * 0))), (0, .ref h0), (1, .ref ak), (2, .int (nI n)), (3, .ref ah)]) hx hb dX1_spread_51 hl (by decide) rfl (fun ls hl => ?_)
      have main : ∀ (k b : Nat), b + k = 521 → ∀ (f1 : Nat → Int32) (l1 r1 : Int32) (H : Heap) (locs : List Loc) (ls : Array Slot), bf_run (bf_ws gw) 0 b (bf_key (bf_kf gk n) ft, 0, 0) = (f1, l1, r1) → va_P (dC, dI) vwCl [(h0, .inr (1, [.ref aw, .int (nI z), .ref as_, .ref ao, .ref at_, .int l1, .int r1])), aI cI at_ 1042 f1, aI cI ak N gk, aI cI ah 16 gw] H → va_D A [(h0, .inr (1, [.ref aw, .int (nI z), .ref as_, .ref ao, .ref at_, .int l1, .int r1])), aI cI at_ 1042 f1, aI cI ak N gk, aI cI ah 16 gw] → va_S A s.heap H locs → lv_has ls 5 [(0, .ref h0), (1, .ref ak), (2, .int (nI n)), (3, .ref ah), (4, .int (nI (2 * b)))] → W p l e (headSpec (ws_ yX1_spread cX1_spread 5 none) ({ frames := 1, cells := 0, slots := 0, locals := 25 } : Room)).room s m ([.ref h0, .ref ak, .int (nI n), .ref ah] : List Value).toArray below meth c H locs 0 0 Q (F0 m 53 ls []) := by
        intro k
        induction k with
        | zero =>
          intro b hb5 f1 l1 r1 H locs ls hq hP hD hS hl
          refine lv_iload hx hb dX1_spread_53 (lv_at hl 4 rfl) ?_
          refine lv_sipush (v := nI 1042) hx hb dX1_spread_55 (by decide) ?_
          refine lv_icmp_ge (tgt := 138) hx hb dX1_spread_58 (by decide) (fun _ => ?_) (fun c9 => absurd (nI_le (by omega) (by omega)) c9)
          have hf1 : f1 = bf_spr (bf_kf gk n) (bf_ws gw) ft := by unfold bf_spr; rw [show 521 = b by omega, hq]
          rw [hf1] at hP hD
          subst hQe
          subst hAe
          exact W.vret hx hb hr (fun t ht hW => ⟨⟨(l1, r1), rfl, trivial, by rw [ht]; exact hP.sub [0, 1, 2, 3] rfl, hD.sub [0, 1, 2, 3] (by decide) rfl⟩, hS.F ht⟩) hS.2.2 dX1_spread_138
        | succ k ih2 =>
          intro b hb5 f1 l1 r1 H locs ls hq hP hD hS hl
          refine lv_iload hx hb dX1_spread_53 (lv_at hl 4 rfl) ?_
          refine lv_sipush (v := nI 1042) hx hb dX1_spread_55 (by decide) ?_
          refine lv_icmp_ge (tgt := 138) hx hb dX1_spread_58 (by decide) (fun c9 => absurd c9 (nI_ge (by omega) (by omega))) (fun _ => ?_)
          refine lv_aload_n hx hb dX1_spread_61 rfl (lv_at hl 0 rfl) ?_
          refine lv_aload_n hx hb dX1_spread_62 rfl (lv_at hl 0 rfl) ?_
          refine va_get (D := (dC, dI)) (ci := 1) (v := .int l1) (C := RX1) (T := TX1) (N := 7) hx hb hts in_X1 hown hK hP 0 rfl rfl 5 (by decide) (hts _ q253) (fun _ h9 => h9) rfl dX1_spread_63 ?_
          refine lv_aload_n hx hb dX1_spread_66 rfl (lv_at hl 3 rfl) ?_
          refine lv_bipush (v := nI 16) hx hb dX1_spread_67 (by decide) ?_
          refine lv_iconst (v := 4) hx hb dX1_spread_69 (by decide) ?_
          refine lv_iload hx hb dX1_spread_70 (lv_at hl 4 rfl) ?_
          refine lv_imul hx hb dX1_spread_72 ?_
          refine cx_top (nI (4 * (2 * b))) (pk_mul 4 (2 * b)) ?_
          refine vp_callSi (va_runS (As := [.ref ah, .int (nI 16), .int (nI (4 * (2 * b)))]) (rest := [.int l1, .ref h0]) ⟨hx, hb, hml, hown, hts⟩ (met_four l dC dI cI cB ah 16 16 (4 * (2 * b)) gw (by decide) (by decide) (by decide) (by omega)) (va_cwS 3 hts (lw_S q296 q297 q12 q298) rfl rfl rfl (by decide +kernel) ⟨Nat.le_of_ble_eq_true rfl, Nat.le_of_ble_eq_true rfl⟩) (cx_ppS hP hK [3] rfl) rfl rfl hl.1 rfl (lv_room (Nat.le_of_ble_eq_true rfl)) dX1_spread_73 ⟨Nat.le_of_ble_eq_true rfl, Nat.le_of_ble_eq_true rfl⟩).run (fun r_1 hr_1 => ?_)
          obtain rfl : r_1 = bf_4 gw 16 (4 * (2 * b)) 4 := hr_1
          refine lv_ixor hx hb dX1_spread_76 ?_
          refine va_put (D := (dC, dI)) (ci := 1) (v := .int (l1 ^^^ (bf_4 gw 16 (4 * (2 * b)) 4))) (ty := .int) (C := RX1) (T := TX1) (N := 7) hx hb hts in_X1 tyX1 tyX1_ok nmX1 hown hK hP hD hS 0 rfl rfl 5 (by decide) (hts _ q253) (fun _ h9 => h9) rfl (by decide +kernel) rfl rfl (Nat.le_of_ble_eq_true rfl) dX1_spread_77 (fun H locs hP hD hS => ?_)
          have hP : va_P (dC, dI) vwCl [(h0, .inr (1, [.ref aw, .int (nI z), .ref as_, .ref ao, .ref at_, .int (l1 ^^^ (bf_4 gw 16 (4 * (2 * b)) 4)), .int r1])), aI cI at_ 1042 f1, aI cI ak N gk, aI cI ah 16 gw] H := hP
          have hD : va_D A [(h0, .inr (1, [.ref aw, .int (nI z), .ref as_, .ref ao, .ref at_, .int (l1 ^^^ (bf_4 gw 16 (4 * (2 * b)) 4)), .int r1])), aI cI at_ 1042 f1, aI cI ak N gk, aI cI ah 16 gw] := hD
          refine lv_aload_n hx hb dX1_spread_80 rfl (lv_at hl 0 rfl) ?_
          refine lv_aload_n hx hb dX1_spread_81 rfl (lv_at hl 0 rfl) ?_
          refine va_get (D := (dC, dI)) (ci := 1) (v := .int r1) (C := RX1) (T := TX1) (N := 7) hx hb hts in_X1 hown hK hP 0 rfl rfl 6 (by decide) (hts _ q254) (fun _ h9 => h9) rfl dX1_spread_82 ?_
          refine lv_aload_n hx hb dX1_spread_85 rfl (lv_at hl 3 rfl) ?_
          refine lv_bipush (v := nI 16) hx hb dX1_spread_86 (by decide) ?_
          refine lv_iconst (v := 4) hx hb dX1_spread_88 (by decide) ?_
          refine lv_iload hx hb dX1_spread_89 (lv_at hl 4 rfl) ?_
          refine lv_imul hx hb dX1_spread_91 ?_
          refine lv_iconst (v := 4) hx hb dX1_spread_92 (by decide) ?_
          refine lv_iadd hx hb dX1_spread_93 ?_
          refine cx_top (nI (4 * (2 * b) + 4)) (by rw [show (4 : Int32) * nI (2 * b) = nI (4 * (2 * b)) from pk_mul 4 (2 * b)]; exact nI_add _ 4) ?_
          refine vp_callSi (va_runS (As := [.ref ah, .int (nI 16), .int (nI (4 * (2 * b) + 4))]) (rest := [.int r1, .ref h0]) ⟨hx, hb, hml, hown, hts⟩ (met_four l dC dI cI cB ah 16 16 (4 * (2 * b) + 4) gw (by decide) (by decide) (by decide) (by omega)) (va_cwS 3 hts (lw_S q296 q297 q12 q298) rfl rfl rfl (by decide +kernel) ⟨Nat.le_of_ble_eq_true rfl, Nat.le_of_ble_eq_true rfl⟩) (cx_ppS hP hK [3] rfl) rfl rfl hl.1 rfl (lv_room (Nat.le_of_ble_eq_true rfl)) dX1_spread_94 ⟨Nat.le_of_ble_eq_true rfl, Nat.le_of_ble_eq_true rfl⟩).run (fun r_2 hr_2 => ?_)
          obtain rfl : r_2 = bf_4 gw 16 (4 * (2 * b) + 4) 4 := hr_2
          refine lv_ixor hx hb dX1_spread_97 ?_
          refine va_put (D := (dC, dI)) (ci := 1) (v := .int (r1 ^^^ (bf_4 gw 16 (4 * (2 * b) + 4) 4))) (ty := .int) (C := RX1) (T := TX1) (N := 7) hx hb hts in_X1 tyX1 tyX1_ok nmX1 hown hK hP hD hS 0 rfl rfl 6 (by decide) (hts _ q254) (fun _ h9 => h9) rfl (by decide +kernel) rfl rfl (Nat.le_of_ble_eq_true rfl) dX1_spread_98 (fun H locs hP hD hS => ?_)
          have hP : va_P (dC, dI) vwCl [(h0, .inr (1, [.ref aw, .int (nI z), .ref as_, .ref ao, .ref at_, .int (l1 ^^^ (bf_4 gw 16 (4 * (2 * b)) 4)), .int (r1 ^^^ (bf_4 gw 16 (4 * (2 * b) + 4) 4))])), aI cI at_ 1042 f1, aI cI ak N gk, aI cI ah 16 gw] H := hP
          have hD : va_D A [(h0, .inr (1, [.ref aw, .int (nI z), .ref as_, .ref ao, .ref at_, .int (l1 ^^^ (bf_4 gw 16 (4 * (2 * b)) 4)), .int (r1 ^^^ (bf_4 gw 16 (4 * (2 * b) + 4) 4))])), aI cI at_ 1042 f1, aI cI ak N gk, aI cI ah 16 gw] := hD
          refine lv_aload_n hx hb dX1_spread_101 rfl (lv_at hl 0 rfl) ?_
          refine cx_callv (wr := [aI cI ak N gk, aI cI ah 16 gw]) (va_runV (As := []) (rest := []) ⟨hx, hb, hml, hown, hts⟩ (met_lock l dC dI cI cB h0 aw as_ ao at_ z (l1 ^^^ bf_4 gw 16 (4 * (2 * b)) 4) (r1 ^^^ bf_4 gw 16 (4 * (2 * b) + 4) 4) f1 H.size) (cwV 0 hts (lw_V q299 q301 qs9 q12 q302) rfl rfl rfl (by decide +kernel) ⟨Nat.le_of_ble_eq_true rfl, Nat.le_of_ble_eq_true rfl⟩) (cx_preV (ci := 1) (q0 := 0) rfl rfl hP hD hK [0, 1] rfl (by decide) rfl (cx_No_b) (fun _ _ _ => trivial)) rfl rfl hl.1 rfl (lv_room (Nat.le_of_ble_eq_true rfl)) dX1_spread_102 ⟨Nat.le_of_ble_eq_true rfl, Nat.le_of_ble_eq_true rfl⟩) hP hD hS hA [0, 1] [2, 3] rfl rfl (by decide) (by decide) (fun u0 H locs _ hP hD hS => ?_)
          have hP : va_P (dC, dI) vwCl [aI cI ak N gk, aI cI ah 16 gw, (h0, .inr (1, [.ref aw, .int (nI z), .ref as_, .ref ao, .ref at_, .int ((bf_enc f1 (bf_S f1) ((l1 ^^^ bf_4 gw 16 (4 * (2 * b)) 4), (r1 ^^^ bf_4 gw 16 (4 * (2 * b) + 4) 4))).1), .int ((bf_enc f1 (bf_S f1) ((l1 ^^^ bf_4 gw 16 (4 * (2 * b)) 4), (r1 ^^^ bf_4 gw 16 (4 * (2 * b) + 4) 4))).2)])), aI cI at_ 1042 f1] H := hP
          have hD : va_D A [aI cI ak N gk, aI cI ah 16 gw, (h0, .inr (1, [.ref aw, .int (nI z), .ref as_, .ref ao, .ref at_, .int ((bf_enc f1 (bf_S f1) ((l1 ^^^ bf_4 gw 16 (4 * (2 * b)) 4), (r1 ^^^ bf_4 gw 16 (4 * (2 * b) + 4) 4))).1), .int ((bf_enc f1 (bf_S f1) ((l1 ^^^ bf_4 gw 16 (4 * (2 * b)) 4), (r1 ^^^ bf_4 gw 16 (4 * (2 * b) + 4) 4))).2)])), aI cI at_ 1042 f1] := hD
          refine lv_aload_n hx hb dX1_spread_105 rfl (lv_at hl 0 rfl) ?_
          refine va_get (D := (dC, dI)) (ci := 1) (v := .ref at_) (C := RX1) (T := TX1) (N := 7) hx hb hts in_X1 hown hK hP 2 rfl rfl 4 (by decide) (hts _ q252) (fun _ h9 => h9) rfl dX1_spread_106 ?_
          refine lv_iload hx hb dX1_spread_109 (lv_at hl 4 rfl) ?_
          refine lv_aload_n hx hb dX1_spread_111 rfl (lv_at hl 0 rfl) ?_
          refine va_get (D := (dC, dI)) (ci := 1) (v := .int ((bf_enc f1 (bf_S f1) ((l1 ^^^ bf_4 gw 16 (4 * (2 * b)) 4), (r1 ^^^ bf_4 gw 16 (4 * (2 * b) + 4) 4))).1)) (C := RX1) (T := TX1) (N := 7) hx hb hts in_X1 hown hK hP 2 rfl rfl 5 (by decide) (hts _ q253) (fun _ h9 => h9) rfl dX1_spread_112 ?_
          refine cx_iast hx hb hK hP hD hS 3 0 rfl rfl ((2 * b)) (rfl) (by omega) (by decide) dX1_spread_115 (fun H locs hP hD hS => ?_)
          have hP : va_P (dC, dI) vwCl [aI cI ak N gk, aI cI ah 16 gw, (h0, .inr (1, [.ref aw, .int (nI z), .ref as_, .ref ao, .ref at_, .int ((bf_enc f1 (bf_S f1) ((l1 ^^^ bf_4 gw 16 (4 * (2 * b)) 4), (r1 ^^^ bf_4 gw 16 (4 * (2 * b) + 4) 4))).1), .int ((bf_enc f1 (bf_S f1) ((l1 ^^^ bf_4 gw 16 (4 * (2 * b)) 4), (r1 ^^^ bf_4 gw 16 (4 * (2 * b) + 4) 4))).2)])), aI cI at_ 1042 (upd f1 (2 * b) ((bf_enc f1 (bf_S f1) ((l1 ^^^ bf_4 gw 16 (4 * (2 * b)) 4), (r1 ^^^ bf_4 gw 16 (4 * (2 * b) + 4) 4))).1))] H := hP
          have hD : va_D A [aI cI ak N gk, aI cI ah 16 gw, (h0, .inr (1, [.ref aw, .int (nI z), .ref as_, .ref ao, .ref at_, .int ((bf_enc f1 (bf_S f1) ((l1 ^^^ bf_4 gw 16 (4 * (2 * b)) 4), (r1 ^^^ bf_4 gw 16 (4 * (2 * b) + 4) 4))).1), .int ((bf_enc f1 (bf_S f1) ((l1 ^^^ bf_4 gw 16 (4 * (2 * b)) 4), (r1 ^^^ bf_4 gw 16 (4 * (2 * b) + 4) 4))).2)])), aI cI at_ 1042 (upd f1 (2 * b) ((bf_enc f1 (bf_S f1) ((l1 ^^^ bf_4 gw 16 (4 * (2 * b)) 4), (r1 ^^^ bf_4 gw 16 (4 * (2 * b) + 4) 4))).1))] := hD
          refine lv_aload_n hx hb dX1_spread_116 rfl (lv_at hl 0 rfl) ?_
          refine va_get (D := (dC, dI)) (ci := 1) (v := .ref at_) (C := RX1) (T := TX1) (N := 7) hx hb hts in_X1 hown hK hP 2 rfl rfl 4 (by decide) (hts _ q252) (fun _ h9 => h9) rfl dX1_spread_117 ?_
          refine lv_iload hx hb dX1_spread_120 (lv_at hl 4 rfl) ?_
          refine lv_iconst (v := 1) hx hb dX1_spread_122 (by decide) ?_
          refine lv_iadd hx hb dX1_spread_123 ?_
          refine cx_top (nI (2 * b + 1)) (nI_1 (2 * b)) ?_
          refine lv_aload_n hx hb dX1_spread_124 rfl (lv_at hl 0 rfl) ?_
          refine va_get (D := (dC, dI)) (ci := 1) (v := .int ((bf_enc f1 (bf_S f1) ((l1 ^^^ bf_4 gw 16 (4 * (2 * b)) 4), (r1 ^^^ bf_4 gw 16 (4 * (2 * b) + 4) 4))).2)) (C := RX1) (T := TX1) (N := 7) hx hb hts in_X1 hown hK hP 2 rfl rfl 6 (by decide) (hts _ q254) (fun _ h9 => h9) rfl dX1_spread_125 ?_
          refine cx_iast hx hb hK hP hD hS 3 0 rfl rfl ((2 * b + 1)) (rfl) (by omega) (by decide) dX1_spread_128 (fun H locs hP hD hS => ?_)
          have hP : va_P (dC, dI) vwCl [aI cI ak N gk, aI cI ah 16 gw, (h0, .inr (1, [.ref aw, .int (nI z), .ref as_, .ref ao, .ref at_, .int ((bf_enc f1 (bf_S f1) ((l1 ^^^ bf_4 gw 16 (4 * (2 * b)) 4), (r1 ^^^ bf_4 gw 16 (4 * (2 * b) + 4) 4))).1), .int ((bf_enc f1 (bf_S f1) ((l1 ^^^ bf_4 gw 16 (4 * (2 * b)) 4), (r1 ^^^ bf_4 gw 16 (4 * (2 * b) + 4) 4))).2)])), aI cI at_ 1042 (upd (upd f1 (2 * b) ((bf_enc f1 (bf_S f1) ((l1 ^^^ bf_4 gw 16 (4 * (2 * b)) 4), (r1 ^^^ bf_4 gw 16 (4 * (2 * b) + 4) 4))).1)) (2 * b + 1) ((bf_enc f1 (bf_S f1) ((l1 ^^^ bf_4 gw 16 (4 * (2 * b)) 4), (r1 ^^^ bf_4 gw 16 (4 * (2 * b) + 4) 4))).2))] H := hP
          have hD : va_D A [aI cI ak N gk, aI cI ah 16 gw, (h0, .inr (1, [.ref aw, .int (nI z), .ref as_, .ref ao, .ref at_, .int ((bf_enc f1 (bf_S f1) ((l1 ^^^ bf_4 gw 16 (4 * (2 * b)) 4), (r1 ^^^ bf_4 gw 16 (4 * (2 * b) + 4) 4))).1), .int ((bf_enc f1 (bf_S f1) ((l1 ^^^ bf_4 gw 16 (4 * (2 * b)) 4), (r1 ^^^ bf_4 gw 16 (4 * (2 * b) + 4) 4))).2)])), aI cI at_ 1042 (upd (upd f1 (2 * b) ((bf_enc f1 (bf_S f1) ((l1 ^^^ bf_4 gw 16 (4 * (2 * b)) 4), (r1 ^^^ bf_4 gw 16 (4 * (2 * b) + 4) 4))).1)) (2 * b + 1) ((bf_enc f1 (bf_S f1) ((l1 ^^^ bf_4 gw 16 (4 * (2 * b)) 4), (r1 ^^^ bf_4 gw 16 (4 * (2 * b) + 4) 4))).2))] := hD
          refine lv_iload hx hb dX1_spread_129 (lv_at hl 4 rfl) ?_
          refine lv_iconst (v := 2) hx hb dX1_spread_131 (by decide) ?_
          refine lv_iadd hx hb dX1_spread_132 ?_
          refine cx_top (nI (2 * (b + 1))) (nI_add (2 * b) 2) ?_
          refine lv_istore (lv' := [(4, .int (nI (2 * (b + 1)))), (0, .ref h0), (1, .ref ak), (2, .int (nI n)), (3, .ref ah)]) hx hb dX1_spread_133 hl (by decide) rfl (fun ls hl => ?_)
          refine lv_goto (tgt := 53) hx hb dX1_spread_135 (by decide) ?_
          exact ih2 (b + 1) (by omega) _ _ _ H locs ls (bf_run_nx hq) (hP.sub [2, 3, 0, 1] rfl) (hD.sub [2, 3, 0, 1] (by decide) rfl) hS (lv_sub hl [1, 2, 3, 4, 0] rfl)
      exact main 521 0 (by omega) f 0 0 H locs ls (by rw [hfk]; rfl) hP hD hS (lv_sub hl [1, 2, 3, 4, 0] rfl)
    | succ k ih =>
      intro i hi f H locs ls hf hP hD hS hl
      refine lv_iload hx hb dX1_spread_3 (lv_at hl 4 rfl) ?_
      refine lv_bipush (v := nI 18) hx hb dX1_spread_5 (by decide) ?_
      refine lv_icmp_ge (tgt := 40) hx hb dX1_spread_7 (by decide) (fun c9 => absurd c9 (nI_ge (by omega) (by omega))) (fun _ => ?_)
      refine lv_aload_n hx hb dX1_spread_10 rfl (lv_at hl 0 rfl) ?_
      refine va_get (D := (dC, dI)) (ci := 1) (v := .ref at_) (C := RX1) (T := TX1) (N := 7) hx hb hts in_X1 hown hK hP 0 rfl rfl 4 (by decide) (hts _ q252) (fun _ h9 => h9) rfl dX1_spread_11 ?_
      refine lv_iload hx hb dX1_spread_14 (lv_at hl 4 rfl) ?_
      refine lv_aload_n hx hb dX1_spread_16 rfl (lv_at hl 0 rfl) ?_
      refine va_get (D := (dC, dI)) (ci := 1) (v := .ref at_) (C := RX1) (T := TX1) (N := 7) hx hb hts in_X1 hown hK hP 0 rfl rfl 4 (by decide) (hts _ q252) (fun _ h9 => h9) rfl dX1_spread_17 ?_
      refine lv_iload hx hb dX1_spread_20 (lv_at hl 4 rfl) ?_
      refine cx_iald hx hb hK hP 1 0 rfl rfl (i) (rfl) (by omega) (by decide) dX1_spread_22 ?_
      refine lv_aload_n hx hb dX1_spread_23 rfl (lv_at hl 1 rfl) ?_
      refine lv_iload_n hx hb dX1_spread_24 rfl (lv_at hl 2 rfl) ?_
      refine lv_iconst (v := 4) hx hb dX1_spread_25 (by decide) ?_
      refine lv_iload hx hb dX1_spread_26 (lv_at hl 4 rfl) ?_
      refine lv_imul hx hb dX1_spread_28 ?_
      refine cx_top (nI (4 * i)) (pk_mul 4 i) ?_
      refine vp_callSi (va_runS (As := [.ref ak, .int (nI n), .int (nI (4 * i))]) (rest := [.int (f i), .int (nI i), .ref at_]) ⟨hx, hb, hml, hown, hts⟩ (met_four l dC dI cI cB ak N n (4 * i) gk hn hnN hN (by omega)) (va_cwS 3 hts (lw_S q296 q297 q12 q298) rfl rfl rfl (by decide +kernel) ⟨Nat.le_of_ble_eq_true rfl, Nat.le_of_ble_eq_true rfl⟩) (cx_ppS hP hK [2] rfl) rfl rfl hl.1 rfl (lv_room (Nat.le_of_ble_eq_true rfl)) dX1_spread_29 ⟨Nat.le_of_ble_eq_true rfl, Nat.le_of_ble_eq_true rfl⟩).run (fun r_1 hr_1 => ?_)
      obtain rfl : r_1 = bf_4 gk n (4 * i) 4 := hr_1
      refine lv_ixor hx hb dX1_spread_32 ?_
      refine cx_iast hx hb hK hP hD hS 1 0 rfl rfl (i) (rfl) (by omega) (by decide) dX1_spread_33 (fun H locs hP hD hS => ?_)
      have hP : va_P (dC, dI) vwCl [(h0, .inr (1, [.ref aw, .int (nI z), .ref as_, .ref ao, .ref at_, .int lf, .int rt])), aI cI at_ 1042 (upd f i ((f i) ^^^ (bf_4 gk n (4 * i) 4))), aI cI ak N gk, aI cI ah 16 gw] H := hP
      have hD : va_D A [(h0, .inr (1, [.ref aw, .int (nI z), .ref as_, .ref ao, .ref at_, .int lf, .int rt])), aI cI at_ 1042 (upd f i ((f i) ^^^ (bf_4 gk n (4 * i) 4))), aI cI ak N gk, aI cI ah 16 gw] := hD
      refine lv_iinc (v := nI (i + 1)) (lv' := [(4, .int (nI (i + 1))), (0, .ref h0), (1, .ref ak), (2, .int (nI n)), (3, .ref ah)]) hx hb dX1_spread_34 hl (k := 4) rfl (nI_1 i) (by decide) rfl (fun ls hl => ?_)
      refine lv_goto (tgt := 3) hx hb dX1_spread_37 (by decide) ?_
      exact ih (i + 1) (by omega) _ H locs ls (bf_cxn hf rfl) hP hD hS (lv_sub hl [1, 2, 3, 4, 0] rfl)
  exact loop 18 0 (by omega) ft _ _ ls (fun j => by rw [if_neg (by omega)]) hP hD hS (lv_sub hl [1, 2, 3, 4, 0] rfl)
end
section
/-! CryptDeskModel.hash -/
set_option maxHeartbeats 4000000 in
set_option maxRecDepth 100000 in
/-- CryptDeskModel.hash -/
theorem met_mhash (l : Launch) (dC : Nat → ClassId) (dI : Nat → Nat → Nat) (cI cB : ClassId) (h0 aw as_ ao at_ z : Nat) (lf rt : Int32) (fw fs fo ft : Nat → Int32) (T : Nat → Int32) (x : Int32) (hz : 0 < z) (hz2 : z ≤ 72) (sz : Nat) : Met l yX1_hash (ws_ yX1_hash cX1_hash 6 none) ({ frames := 2, cells := 2, slots := 40, locals := 49 } : Room) (cx_Pre (dC, dI) (tyL cI cB) [.ref h0, .int x] [(h0, .inr (1, [.ref aw, .int (nI z), .ref as_, .ref ao, .ref at_, .int lf, .int rt])), aI cI aw 72 fw, aI cI as_ 16 fs, aI cI ao 24 fo, aI cI at_ 1042 ft] sz (cx_Pi T (va_A [(h0, .inr (1, [.ref aw, .int (nI z), .ref as_, .ref ao, .ref at_, .int lf, .int rt])), aI cI aw 72 fw, aI cI as_ 16 fs, aI cI ao 24 fo, aI cI at_ 1042 ft] sz))) (cx_Qv (S := (Nat → Int32) × (Nat → Int32) × Int32 × Int32) (dC, dI) [(h0, .inr (1, [.ref aw, .int (nI z), .ref as_, .ref ao, .ref at_, .int lf, .int rt])), aI cI aw 72 fw, aI cI as_ 16 fs, aI cI ao 24 fo, aI cI at_ 1042 ft] sz (fun u => ∀ j, j < 24 → u.1 j = bf_by (bf_out (bf_fin fw z fs (2 ^ bf_cs x) T) bf_Mg (j / 4)) (j % 4)) (fun u => [oMod h0 aw (nI z) as_ ao at_ u.2.2.1 u.2.2.2, aI cI aw 72 fw, aI cI as_ 16 fs, aI cI ao 24 u.1, aI cI at_ 1042 u.2.1])) 2 40 (va_A [(h0, .inr (1, [.ref aw, .int (nI z), .ref as_, .ref ao, .ref at_, .int lf, .int rt])), aI cI aw 72 fw, aI cI as_ 16 fs, aI cI ao 24 fo, aI cI at_ 1042 ft] sz) := by
  refine Met.ofW (cc := cX1_hash) (maxL := 6) (ret := none) (by decide) rfl ?_
  intro p e s m args below meth c s₁ B hml hv
  obtain ⟨rfl, hsz, hP, hK, hD0, hE⟩ := hv
  have hx := B.exec
  have hb := B.bytes
  have hr := B.returns
  have hts := atoms_spec (ws := (ws_ yX1_hash cX1_hash 6 none)) B.pre
  have hts : ∀ w ∈ lw_all, w.before _ s = true := fun w h => hts w (List.mem_cons_of_mem _ h)
  have hown : s.vm.findClass RX1 = some m.cls := findClass_of_methodNamed B.named
  have hlocks := B.notSynchronized
  subst hsz
  obtain ⟨A, hAe⟩ : ∃ A : Nat → Prop, A = va_A [(h0, .inr (1, [.ref aw, .int (nI z), .ref as_, .ref ao, .ref at_, .int lf, .int rt])), aI cI aw 72 fw, aI cI as_ 16 fs, aI cI ao 24 fo, aI cI at_ 1042 ft] s.heap.size := ⟨_, rfl⟩
  have hD : va_D A [(h0, .inr (1, [.ref aw, .int (nI z), .ref as_, .ref ao, .ref at_, .int lf, .int rt])), aI cI aw 72 fw, aI cI as_ 16 fs, aI cI ao 24 fo, aI cI at_ 1042 ft] := by rw [hAe]; exact hD0.self
  rw [← hAe] at hE
  have hA : ∀ q : Nat, s.heap.size ≤ q → A q := fun q h => by rw [hAe]; exact Or.inr h
  have hS : va_S A s.heap s.heap [] := va_S.rf
  refine cx_Q (fun Q hQe => ?_)
  have hP : va_P (dC, dI) vwCl [(h0, .inr (1, [.ref aw, .int (nI z), .ref as_, .ref ao, .ref at_, .int lf, .int rt])), aI cI aw 72 fw, aI cI as_ 16 fs, aI cI ao 24 fo, aI cI at_ 1042 ft] s.heap := hP
  have hl := lv_entry ([.ref h0, .int x]) (n := 6) (Nat.le_of_ble_eq_true rfl)
  rw [lg_entry_eq]
  generalize (lg_sl ([.ref h0, .int x]) ++ List.replicate (6 - (lg_sl ([.ref h0, .int x])).length) Slot.unset).toArray = ls at hl ⊢
  have hl : lv_has ls 6 [(0, .ref h0), (1, .int x)] := hl
  obtain ⟨tPI, zPI, xPI, lPI, nPI⟩ := id hE
  refine lv_iconst (v := nI 0) hx hb dX1_hash_0 (by decide) ?_
  refine lv_istore_n (lv' := [(2, .int (nI 0)), (0, .ref h0), (1, .int x)]) hx hb dX1_hash_1 rfl hl (by decide) rfl (fun ls hl => ?_)
  have loop : ∀ (k i : Nat), i + k = 1042 → ∀ (f : Nat → Int32) (H : Heap) (locs : List Loc) (ls : Array Slot), (∀ j, f j = if j < i then T j else ft j) → va_P (dC, dI) vwCl [(h0, .inr (1, [.ref aw, .int (nI z), .ref as_, .ref ao, .ref at_, .int lf, .int rt])), aI cI aw 72 fw, aI cI as_ 16 fs, aI cI ao 24 fo, aI cI at_ 1042 f] H → va_D A [(h0, .inr (1, [.ref aw, .int (nI z), .ref as_, .ref ao, .ref at_, .int lf, .int rt])), aI cI aw 72 fw, aI cI as_ 16 fs, aI cI ao 24 fo, aI cI at_ 1042 f] → va_S A s.heap H locs → lv_has ls 6 [(0, .ref h0), (1, .int x), (2, .int (nI i))] → W p l e (headSpec (ws_ yX1_hash cX1_hash 6 none) ({ frames := 2, cells := 2, slots := 40, locals := 49 } : Room)).room s m ([.ref h0, .int x] : List Value).toArray below meth c H locs 0 0 Q (F0 m 2 ls []) := by
    intro k
    induction k with
    | zero =>
      intro i hi f H locs ls hf hP hD hS hl
      refine lv_iload_n hx hb dX1_hash_2 rfl (lv_at hl 2 rfl) ?_
      refine lv_sipush (v := nI 1042) hx hb dX1_hash_3 (by decide) ?_
      refine lv_icmp_ge (tgt := 26) hx hb dX1_hash_6 (by decide) (fun _ => ?_) (fun c9 => absurd (nI_le (by omega) (by omega)) c9)
      have hP := cx_alike hP 4 T rfl (fun j hj => by rw [hf j, if_pos (by omega)])
      have hD := hD.set (p := 4) (e := .inl (cI, 1042, .inl T)) rfl
      have hP : va_P (dC, dI) vwCl [(h0, .inr (1, [.ref aw, .int (nI z), .ref as_, .ref ao, .ref at_, .int lf, .int rt])), aI cI aw 72 fw, aI cI as_ 16 fs, aI cI ao 24 fo, aI cI at_ 1042 T] H := hP
      have hD : va_D A [(h0, .inr (1, [.ref aw, .int (nI z), .ref as_, .ref ao, .ref at_, .int lf, .int rt])), aI cI aw 72 fw, aI cI as_ 16 fs, aI cI ao 24 fo, aI cI at_ 1042 T] := hD
      refine lv_bipush (v := 16) hx hb dX1_hash_26 (by decide) ?_
      refine cx_newI hx hb (hts _ q157) hK hP hD hS hA (16) (rfl) (by decide) (by decide) (by decide) dX1_hash_28 (fun aN H hP hD hS => ?_)
      have hP : va_P (dC, dI) vwCl [(h0, .inr (1, [.ref aw, .int (nI z), .ref as_, .ref ao, .ref at_, .int lf, .int rt])), aI cI aw 72 fw, aI cI as_ 16 fs, aI cI ao 24 fo, aI cI at_ 1042 T, aI cI aN 16 (fun _ => 0)] H := hP
      have hD : va_D A [(h0, .inr (1, [.ref aw, .int (nI z), .ref as_, .ref ao, .ref at_, .int lf, .int rt])), aI cI aw 72 fw, aI cI as_ 16 fs, aI cI ao 24 fo, aI cI at_ 1042 T, aI cI aN 16 (fun _ => 0)] := hD
      refine lv_astore_n (lv' := [(2, .ref aN), (0, .ref h0), (1, .int x)]) hx hb dX1_hash_30 rfl hl (by decide) rfl (fun ls hl => ?_)
      refine lv_bipush (v := 24) hx hb dX1_hash_31 (by decide) ?_
      refine cx_newI hx hb (hts _ q157) hK hP hD hS hA (24) (rfl) (by decide) (by decide) (by decide) dX1_hash_33 (fun aX H hP hD hS => ?_)
      have hP : va_P (dC, dI) vwCl [(h0, .inr (1, [.ref aw, .int (nI z), .ref as_, .ref ao, .ref at_, .int lf, .int rt])), aI cI aw 72 fw, aI cI as_ 16 fs, aI cI ao 24 fo, aI cI at_ 1042 T, aI cI aN 16 (fun _ => 0), aI cI aX 24 (fun _ => 0)] H := hP
      have hD : va_D A [(h0, .inr (1, [.ref aw, .int (nI z), .ref as_, .ref ao, .ref at_, .int lf, .int rt])), aI cI aw 72 fw, aI cI as_ 16 fs, aI cI ao 24 fo, aI cI at_ 1042 T, aI cI aN 16 (fun _ => 0), aI cI aX 24 (fun _ => 0)] := hD
      refine lv_dup hx hb dX1_hash_35 rfl ?_
      refine lv_iconst (v := 0) hx hb dX1_hash_36 (by decide) ?_
      refine lv_bipush (v := 79) hx hb dX1_hash_37 (by decide) ?_
      refine cx_iast hx hb hK hP hD hS 6 0 rfl rfl (0) (rfl) (by decide) (by decide) dX1_hash_39 (fun H locs hP hD hS => ?_)
      have hP : va_P (dC, dI) vwCl [(h0, .inr (1, [.ref aw, .int (nI z), .ref as_, .ref ao, .ref at_, .int lf, .int rt])), aI cI aw 72 fw, aI cI as_ 16 fs, aI cI ao 24 fo, aI cI at_ 1042 T, aI cI aN 16 (fun _ => 0), aI cI aX 24 (upd (fun _ => 0) 0 79)] H := hP
      have hD : va_D A [(h0, .inr (1, [.ref aw, .int (nI z), .ref as_, .ref ao, .ref at_, .int lf, .int rt])), aI cI aw 72 fw, aI cI as_ 16 fs, aI cI ao 24 fo, aI cI at_ 1042 T, aI cI aN 16 (fun _ => 0), aI cI aX 24 (upd (fun _ => 0) 0 79)] := hD
      refine lv_dup hx hb dX1_hash_40 rfl ?_
      refine lv_iconst (v := 1) hx hb dX1_hash_41 (by decide) ?_
      refine lv_bipush (v := 114) hx hb dX1_hash_42 (by decide) ?_
      refine cx_iast hx hb hK hP hD hS 6 0 rfl rfl (1) (rfl) (by decide) (by decide) dX1_hash_44 (fun H locs hP hD hS => ?_)
      have hP : va_P (dC, dI) vwCl [(h0, .inr (1, [.ref aw, .int (nI z), .ref as_, .ref ao, .ref at_, .int lf, .int rt])), aI cI aw 72 fw, aI cI as_ 16 fs, aI cI ao 24 fo, aI cI at_ 1042 T, aI cI aN 16 (fun _ => 0), aI cI aX 24 (upd (upd (fun _ => 0) 0 79) 1 114)] H := hP
      have hD : va_D A [(h0, .inr (1, [.ref aw, .int (nI z), .ref as_, .ref ao, .ref at_, .int lf, .int rt])), aI cI aw 72 fw, aI cI as_ 16 fs, aI cI ao 24 fo, aI cI at_ 1042 T, aI cI aN 16 (fun _ => 0), aI cI aX 24 (upd (upd (fun _ => 0) 0 79) 1 114)] := hD
      refine lv_dup hx hb dX1_hash_45 rfl ?_
      refine lv_iconst (v := 2) hx hb dX1_hash_46 (by decide) ?_
      refine lv_bipush (v := 112) hx hb dX1_hash_47 (by decide) ?_
      refine cx_iast hx hb hK hP hD hS 6 0 rfl rfl (2) (rfl) (by decide) (by decide) dX1_hash_49 (fun H locs hP hD hS => ?_)
      have hP : va_P (dC, dI) vwCl [(h0, .inr (1, [.ref aw, .int (nI z), .ref as_, .ref ao, .ref at_, .int lf, .int rt])), aI cI aw 72 fw, aI cI as_ 16 fs, aI cI ao 24 fo, aI cI at_ 1042 T, aI cI aN 16 (fun _ => 0), aI cI aX 24 (upd (upd (upd (fun _ => 0) 0 79) 1 114) 2 112)] H := hP
      have hD : va_D A [(h0, .inr (1, [.ref aw, .int (nI z), .ref as_, .ref ao, .ref at_, .int lf, .int rt])), aI cI aw 72 fw, aI cI as_ 16 fs, aI cI ao 24 fo, aI cI at_ 1042 T, aI cI aN 16 (fun _ => 0), aI cI aX 24 (upd (upd (upd (fun _ => 0) 0 79) 1 114) 2 112)] := hD
      refine lv_dup hx hb dX1_hash_50 rfl ?_
      refine lv_iconst (v := 3) hx hb dX1_hash_51 (by decide) ?_
      refine lv_bipush (v := 104) hx hb dX1_hash_52 (by decide) ?_
      refine cx_iast hx hb hK hP hD hS 6 0 rfl rfl (3) (rfl) (by decide) (by decide) dX1_hash_54 (fun H locs hP hD hS => ?_)
      have hP : va_P (dC, dI) vwCl [(h0, .inr (1, [.ref aw, .int (nI z), .ref as_, .ref ao, .ref at_, .int lf, .int rt])), aI cI aw 72 fw, aI cI as_ 16 fs, aI cI ao 24 fo, aI cI at_ 1042 T, aI cI aN 16 (fun _ => 0), aI cI aX 24 (upd (upd (upd (upd (fun _ => 0) 0 79) 1 114) 2 112) 3 104)] H := hP
      have hD : va_D A [(h0, .inr (1, [.ref aw, .int (nI z), .ref as_, .ref ao, .ref at_, .int lf, .int rt])), aI cI aw 72 fw, aI cI as_ 16 fs, aI cI ao 24 fo, aI cI at_ 1042 T, aI cI aN 16 (fun _ => 0), aI cI aX 24 (upd (upd (upd (upd (fun _ => 0) 0 79) 1 114) 2 112) 3 104)] := hD
      refine lv_dup hx hb dX1_hash_55 rfl ?_
      refine lv_iconst (v := 4) hx hb dX1_hash_56 (by decide) ?_
      refine lv_bipush (v := 101) hx hb dX1_hash_57 (by decide) ?_
      refine cx_iast hx hb hK hP hD hS 6 0 rfl rfl (4) (rfl) (by decide) (by decide) dX1_hash_59 (fun H locs hP hD hS => ?_)
      have hP : va_P (dC, dI) vwCl [(h0, .inr (1, [.ref aw, .int (nI z), .ref as_, .ref ao, .ref at_, .int lf, .int rt])), aI cI aw 72 fw, aI cI as_ 16 fs, aI cI ao 24 fo, aI cI at_ 1042 T, aI cI aN 16 (fun _ => 0), aI cI aX 24 (upd (upd (upd (upd (upd (fun _ => 0) 0 79) 1 114) 2 112) 3 104) 4 101)] H := hP
      have hD : va_D A [(h0, .inr (1, [.ref aw, .int (nI z), .ref as_, .ref ao, .ref at_, .int lf, .int rt])), aI cI aw 72 fw, aI cI as_ 16 fs, aI cI ao 24 fo, aI cI at_ 1042 T, aI cI aN 16 (fun _ => 0), aI cI aX 24 (upd (upd (upd (upd (upd (fun _ => 0) 0 79) 1 114) 2 112) 3 104) 4 101)] := hD
      refine lv_dup hx hb dX1_hash_60 rfl ?_
      refine lv_iconst (v := 5) hx hb dX1_hash_61 (by decide) ?_
      refine lv_bipush (v := 97) hx hb dX1_hash_62 (by decide) ?_
      refine cx_iast hx hb hK hP hD hS 6 0 rfl rfl (5) (rfl) (by decide) (by decide) dX1_hash_64 (fun H locs hP hD hS => ?_)
      have hP : va_P (dC, dI) vwCl [(h0, .inr (1, [.ref aw, .int (nI z), .ref as_, .ref ao, .ref at_, .int lf, .int rt])), aI cI aw 72 fw, aI cI as_ 16 fs, aI cI ao 24 fo, aI cI at_ 1042 T, aI cI aN 16 (fun _ => 0), aI cI aX 24 (upd (upd (upd (upd (upd (upd (fun _ => 0) 0 79) 1 114) 2 112) 3 104) 4 101) 5 97)] H := hP
      have hD : va_D A [(h0, .inr (1, [.ref aw, .int (nI z), .ref as_, .ref ao, .ref at_, .int lf, .int rt])), aI cI aw 72 fw, aI cI as_ 16 fs, aI cI ao 24 fo, aI cI at_ 1042 T, aI cI aN 16 (fun _ => 0), aI cI aX 24 (upd (upd (upd (upd (upd (upd (fun _ => 0) 0 79) 1 114) 2 112) 3 104) 4 101) 5 97)] := hD
      refine lv_dup hx hb dX1_hash_65 rfl ?_
      refine lv_bipush (v := 6) hx hb dX1_hash_66 (by decide) ?_
      refine lv_bipush (v := 110) hx hb dX1_hash_68 (by decide) ?_
      refine cx_iast hx hb hK hP hD hS 6 0 rfl rfl (6) (rfl) (by decide) (by decide) dX1_hash_70 (fun H locs hP hD hS => ?_)
      have hP : va_P (dC, dI) vwCl [(h0, .inr (1, [.ref aw, .int (nI z), .ref as_, .ref ao, .ref at_, .int lf, .int rt])), aI cI aw 72 fw, aI cI as_ 16 fs, aI cI ao 24 fo, aI cI at_ 1042 T, aI cI aN 16 (fun _ => 0), aI cI aX 24 (upd (upd (upd (upd (upd (upd (upd (fun _ => 0) 0 79) 1 114) 2 112) 3 104) 4 101) 5 97) 6 110)] H := hP
      have hD : va_D A [(h0, .inr (1, [.ref aw, .int (nI z), .ref as_, .ref ao, .ref at_, .int lf, .int rt])), aI cI aw 72 fw, aI cI as_ 16 fs, aI cI ao 24 fo, aI cI at_ 1042 T, aI cI aN 16 (fun _ => 0), aI cI aX 24 (upd (upd (upd (upd (upd (upd (upd (fun _ => 0) 0 79) 1 114) 2 112) 3 104) 4 101) 5 97) 6 110)] := hD
      refine lv_dup hx hb dX1_hash_71 rfl ?_
      refine lv_bipush (v := 7) hx hb dX1_hash_72 (by decide) ?_
      refine lv_bipush (v := 66) hx hb dX1_hash_74 (by decide) ?_
      refine cx_iast hx hb hK hP hD hS 6 0 rfl rfl (7) (rfl) (by decide) (by decide) dX1_hash_76 (fun H locs hP hD hS => ?_)
      have hP : va_P (dC, dI) vwCl [(h0, .inr (1, [.ref aw, .int (nI z), .ref as_, .ref ao, .ref at_, .int lf, .int rt])), aI cI aw 72 fw, aI cI as_ 16 fs, aI cI ao 24 fo, aI cI at_ 1042 T, aI cI aN 16 (fun _ => 0), aI cI aX 24 (upd (upd (upd (upd (upd (upd (upd (upd (fun _ => 0) 0 79) 1 114) 2 112) 3 104) 4 101) 5 97) 6 110) 7 66)] H := hP
      have hD : va_D A [(h0, .inr (1, [.ref aw, .int (nI z), .ref as_, .ref ao, .ref at_, .int lf, .int rt])), aI cI aw 72 fw, aI cI as_ 16 fs, aI cI ao 24 fo, aI cI at_ 1042 T, aI cI aN 16 (fun _ => 0), aI cI aX 24 (upd (upd (upd (upd (upd (upd (upd (upd (fun _ => 0) 0 79) 1 114) 2 112) 3 104) 4 101) 5 97) 6 110) 7 66)] := hD
      refine lv_dup hx hb dX1_hash_77 rfl ?_
      refine lv_bipush (v := 8) hx hb dX1_hash_78 (by decide) ?_
      refine lv_bipush (v := 101) hx hb dX1_hash_80 (by decide) ?_
      refine cx_iast hx hb hK hP hD hS 6 0 rfl rfl (8) (rfl) (by decide) (by decide) dX1_hash_82 (fun H locs hP hD hS => ?_)
      have hP : va_P (dC, dI) vwCl [(h0, .inr (1, [.ref aw, .int (nI z), .ref as_, .ref ao, .ref at_, .int lf, .int rt])), aI cI aw 72 fw, aI cI as_ 16 fs, aI cI ao 24 fo, aI cI at_ 1042 T, aI cI aN 16 (fun _ => 0), aI cI aX 24 (upd (upd (upd (upd (upd (upd (upd (upd (upd (fun _ => 0) 0 79) 1 114) 2 112) 3 104) 4 101) 5 97) 6 110) 7 66) 8 101)] H := hP
      have hD : va_D A [(h0, .inr (1, [.ref aw, .int (nI z), .ref as_, .ref ao, .ref at_, .int lf, .int rt])), aI cI aw 72 fw, aI cI as_ 16 fs, aI cI ao 24 fo, aI cI at_ 1042 T, aI cI aN 16 (fun _ => 0), aI cI aX 24 (upd (upd (upd (upd (upd (upd (upd (upd (upd (fun _ => 0) 0 79) 1 114) 2 112) 3 104) 4 101) 5 97) 6 110) 7 66) 8 101)] := hD
      refine lv_dup hx hb dX1_hash_83 rfl ?_
      refine lv_bipush (v := 9) hx hb dX1_hash_84 (by decide) ?_
      refine lv_bipush (v := 104) hx hb dX1_hash_86 (by decide) ?_
      refine cx_iast hx hb hK hP hD hS 6 0 rfl rfl (9) (rfl) (by decide) (by decide) dX1_hash_88 (fun H locs hP hD hS => ?_)
      have hP : va_P (dC, dI) vwCl [(h0, .inr (1, [.ref aw, .int (nI z), .ref as_, .ref ao, .ref at_, .int lf, .int rt])), aI cI aw 72 fw, aI cI as_ 16 fs, aI cI ao 24 fo, aI cI at_ 1042 T, aI cI aN 16 (fun _ => 0), aI cI aX 24 (upd (upd (upd (upd (upd (upd (upd (upd (upd (upd (fun _ => 0) 0 79) 1 114) 2 112) 3 104) 4 101) 5 97) 6 110) 7 66) 8 101) 9 104)] H := hP
      have hD : va_D A [(h0, .inr (1, [.ref aw, .int (nI z), .ref as_, .ref ao, .ref at_, .int lf, .int rt])), aI cI aw 72 fw, aI cI as_ 16 fs, aI cI ao 24 fo, aI cI at_ 1042 T, aI cI aN 16 (fun _ => 0), aI cI aX 24 (upd (upd (upd (upd (upd (upd (upd (upd (upd (upd (fun _ => 0) 0 79) 1 114) 2 112) 3 104) 4 101) 5 97) 6 110) 7 66) 8 101) 9 104)] := hD
      refine lv_dup hx hb dX1_hash_89 rfl ?_
      refine lv_bipush (v := 10) hx hb dX1_hash_90 (by decide) ?_
      refine lv_bipush (v := 111) hx hb dX1_hash_92 (by decide) ?_
      refine cx_iast hx hb hK hP hD hS 6 0 rfl rfl (10) (rfl) (by decide) (by decide) dX1_hash_94 (fun H locs hP hD hS => ?_)
      have hP : va_P (dC, dI) vwCl [(h0, .inr (1, [.ref aw, .int (nI z), .ref as_, .ref ao, .ref at_, .int lf, .int rt])), aI cI aw 72 fw, aI cI as_ 16 fs, aI cI ao 24 fo, aI cI at_ 1042 T, aI cI aN 16 (fun _ => 0), aI cI aX 24 (upd (upd (upd (upd (upd (upd (upd (upd (upd (upd (upd (fun _ => 0) 0 79) 1 114) 2 112) 3 104) 4 101) 5 97) 6 110) 7 66) 8 101) 9 104) 10 111)] H := hP
      have hD : va_D A [(h0, .inr (1, [.ref aw, .int (nI z), .ref as_, .ref ao, .ref at_, .int lf, .int rt])), aI cI aw 72 fw, aI cI as_ 16 fs, aI cI ao 24 fo, aI cI at_ 1042 T, aI cI aN 16 (fun _ => 0), aI cI aX 24 (upd (upd (upd (upd (upd (upd (upd (upd (upd (upd (upd (fun _ => 0) 0 79) 1 114) 2 112) 3 104) 4 101) 5 97) 6 110) 7 66) 8 101) 9 104) 10 111)] := hD
      refine lv_dup hx hb dX1_hash_95 rfl ?_
      refine lv_bipush (v := 11) hx hb dX1_hash_96 (by decide) ?_
      refine lv_bipush (v := 108) hx hb dX1_hash_98 (by decide) ?_
      refine cx_iast hx hb hK hP hD hS 6 0 rfl rfl (11) (rfl) (by decide) (by decide) dX1_hash_100 (fun H locs hP hD hS => ?_)
      have hP : va_P (dC, dI) vwCl [(h0, .inr (1, [.ref aw, .int (nI z), .ref as_, .ref ao, .ref at_, .int lf, .int rt])), aI cI aw 72 fw, aI cI as_ 16 fs, aI cI ao 24 fo, aI cI at_ 1042 T, aI cI aN 16 (fun _ => 0), aI cI aX 24 (upd (upd (upd (upd (upd (upd (upd (upd (upd (upd (upd (upd (fun _ => 0) 0 79) 1 114) 2 112) 3 104) 4 101) 5 97) 6 110) 7 66) 8 101) 9 104) 10 111) 11 108)] H := hP
      have hD : va_D A [(h0, .inr (1, [.ref aw, .int (nI z), .ref as_, .ref ao, .ref at_, .int lf, .int rt])), aI cI aw 72 fw, aI cI as_ 16 fs, aI cI ao 24 fo, aI cI at_ 1042 T, aI cI aN 16 (fun _ => 0), aI cI aX 24 (upd (upd (upd (upd (upd (upd (upd (upd (upd (upd (upd (upd (fun _ => 0) 0 79) 1 114) 2 112) 3 104) 4 101) 5 97) 6 110) 7 66) 8 101) 9 104) 10 111) 11 108)] := hD
      refine lv_dup hx hb dX1_hash_101 rfl ?_
      refine lv_bipush (v := 12) hx hb dX1_hash_102 (by decide) ?_
      refine lv_bipush (v := 100) hx hb dX1_hash_104 (by decide) ?_
      refine cx_iast hx hb hK hP hD hS 6 0 rfl rfl (12) (rfl) (by decide) (by decide) dX1_hash_106 (fun H locs hP hD hS => ?_)
      have hP : va_P (dC, dI) vwCl [(h0, .inr (1, [.ref aw, .int (nI z), .ref as_, .ref ao, .ref at_, .int lf, .int rt])), aI cI aw 72 fw, aI cI as_ 16 fs, aI cI ao 24 fo, aI cI at_ 1042 T, aI cI aN 16 (fun _ => 0), aI cI aX 24 (upd (upd (upd (upd (upd (upd (upd (upd (upd (upd (upd (upd (upd (fun _ => 0) 0 79) 1 114) 2 112) 3 104) 4 101) 5 97) 6 110) 7 66) 8 101) 9 104) 10 111) 11 108) 12 100)] H := hP
      have hD : va_D A [(h0, .inr (1, [.ref aw, .int (nI z), .ref as_, .ref ao, .ref at_, .int lf, .int rt])), aI cI aw 72 fw, aI cI as_ 16 fs, aI cI ao 24 fo, aI cI at_ 1042 T, aI cI aN 16 (fun _ => 0), aI cI aX 24 (upd (upd (upd (upd (upd (upd (upd (upd (upd (upd (upd (upd (upd (fun _ => 0) 0 79) 1 114) 2 112) 3 104) 4 101) 5 97) 6 110) 7 66) 8 101) 9 104) 10 111) 11 108) 12 100)] := hD
      refine lv_dup hx hb dX1_hash_107 rfl ?_
      refine lv_bipush (v := 13) hx hb dX1_hash_108 (by decide) ?_
      refine lv_bipush (v := 101) hx hb dX1_hash_110 (by decide) ?_
      refine cx_iast hx hb hK hP hD hS 6 0 rfl rfl (13) (rfl) (by decide) (by decide) dX1_hash_112 (fun H locs hP hD hS => ?_)
      have hP : va_P (dC, dI) vwCl [(h0, .inr (1, [.ref aw, .int (nI z), .ref as_, .ref ao, .ref at_, .int lf, .int rt])), aI cI aw 72 fw, aI cI as_ 16 fs, aI cI ao 24 fo, aI cI at_ 1042 T, aI cI aN 16 (fun _ => 0), aI cI aX 24 (upd (upd (upd (upd (upd (upd (upd (upd (upd (upd (upd (upd (upd (upd (fun _ => 0) 0 79) 1 114) 2 112) 3 104) 4 101) 5 97) 6 110) 7 66) 8 101) 9 104) 10 111) 11 108) 12 100) 13 101)] H := hP
      have hD : va_D A [(h0, .inr (1, [.ref aw, .int (nI z), .ref as_, .ref ao, .ref at_, .int lf, .int rt])), aI cI aw 72 fw, aI cI as_ 16 fs, aI cI ao 24 fo, aI cI at_ 1042 T, aI cI aN 16 (fun _ => 0), aI cI aX 24 (upd (upd (upd (upd (upd (upd (upd (upd (upd (upd (upd (upd (upd (upd (fun _ => 0) 0 79) 1 114) 2 112) 3 104) 4 101) 5 97) 6 110) 7 66) 8 101) 9 104) 10 111) 11 108) 12 100) 13 101)] := hD
      refine lv_dup hx hb dX1_hash_113 rfl ?_
      refine lv_bipush (v := 14) hx hb dX1_hash_114 (by decide) ?_
      refine lv_bipush (v := 114) hx hb dX1_hash_116 (by decide) ?_
      refine cx_iast hx hb hK hP hD hS 6 0 rfl rfl (14) (rfl) (by decide) (by decide) dX1_hash_118 (fun H locs hP hD hS => ?_)
      have hP : va_P (dC, dI) vwCl [(h0, .inr (1, [.ref aw, .int (nI z), .ref as_, .ref ao, .ref at_, .int lf, .int rt])), aI cI aw 72 fw, aI cI as_ 16 fs, aI cI ao 24 fo, aI cI at_ 1042 T, aI cI aN 16 (fun _ => 0), aI cI aX 24 (upd (upd (upd (upd (upd (upd (upd (upd (upd (upd (upd (upd (upd (upd (upd (fun _ => 0) 0 79) 1 114) 2 112) 3 104) 4 101) 5 97) 6 110) 7 66) 8 101) 9 104) 10 111) 11 108) 12 100) 13 101) 14 114)] H := hP
      have hD : va_D A [(h0, .inr (1, [.ref aw, .int (nI z), .ref as_, .ref ao, .ref at_, .int lf, .int rt])), aI cI aw 72 fw, aI cI as_ 16 fs, aI cI ao 24 fo, aI cI at_ 1042 T, aI cI aN 16 (fun _ => 0), aI cI aX 24 (upd (upd (upd (upd (upd (upd (upd (upd (upd (upd (upd (upd (upd (upd (upd (fun _ => 0) 0 79) 1 114) 2 112) 3 104) 4 101) 5 97) 6 110) 7 66) 8 101) 9 104) 10 111) 11 108) 12 100) 13 101) 14 114)] := hD
      refine lv_dup hx hb dX1_hash_119 rfl ?_
      refine lv_bipush (v := 15) hx hb dX1_hash_120 (by decide) ?_
      refine lv_bipush (v := 83) hx hb dX1_hash_122 (by decide) ?_
      refine cx_iast hx hb hK hP hD hS 6 0 rfl rfl (15) (rfl) (by decide) (by decide) dX1_hash_124 (fun H locs hP hD hS => ?_)
      have hP : va_P (dC, dI) vwCl [(h0, .inr (1, [.ref aw, .int (nI z), .ref as_, .ref ao, .ref at_, .int lf, .int rt])), aI cI aw 72 fw, aI cI as_ 16 fs, aI cI ao 24 fo, aI cI at_ 1042 T, aI cI aN 16 (fun _ => 0), aI cI aX 24 (upd (upd (upd (upd (upd (upd (upd (upd (upd (upd (upd (upd (upd (upd (upd (upd (fun _ => 0) 0 79) 1 114) 2 112) 3 104) 4 101) 5 97) 6 110) 7 66) 8 101) 9 104) 10 111) 11 108) 12 100) 13 101) 14 114) 15 83)] H := hP
      have hD : va_D A [(h0, .inr (1, [.ref aw, .int (nI z), .ref as_, .ref ao, .ref at_, .int lf, .int rt])), aI cI aw 72 fw, aI cI as_ 16 fs, aI cI ao 24 fo, aI cI at_ 1042 T, aI cI aN 16 (fun _ => 0), aI cI aX 24 (upd (upd (upd (upd (upd (upd (upd (upd (upd (upd (upd (upd (upd (upd (upd (upd (fun _ => 0) 0 79) 1 114) 2 112) 3 104) 4 101) 5 97) 6 110) 7 66) 8 101) 9 104) 10 111) 11 108) 12 100) 13 101) 14 114) 15 83)] := hD
      refine lv_dup hx hb dX1_hash_125 rfl ?_
      refine lv_bipush (v := 16) hx hb dX1_hash_126 (by decide) ?_
      refine lv_bipush (v := 99) hx hb dX1_hash_128 (by decide) ?_
      refine cx_iast hx hb hK hP hD hS 6 0 rfl rfl (16) (rfl) (by decide) (by decide) dX1_hash_130 (fun H locs hP hD hS => ?_)
      have hP : va_P (dC, dI) vwCl [(h0, .inr (1, [.ref aw, .int (nI z), .ref as_, .ref ao, .ref at_, .int lf, .int rt])), aI cI aw 72 fw, aI cI as_ 16 fs, aI cI ao 24 fo, aI cI at_ 1042 T, aI cI aN 16 (fun _ => 0), aI cI aX 24 (upd (upd (upd (upd (upd (upd (upd (upd (upd (upd (upd (upd (upd (upd (upd (upd (upd (fun _ => 0) 0 79) 1 114) 2 112) 3 104) 4 101) 5 97) 6 110) 7 66) 8 101) 9 104) 10 111) 11 108) 12 100) 13 101) 14 114) 15 83) 16 99)] H := hP
      have hD : va_D A [(h0, .inr (1, [.ref aw, .int (nI z), .ref as_, .ref ao, .ref at_, .int lf, .int rt])), aI cI aw 72 fw, aI cI as_ 16 fs, aI cI ao 24 fo, aI cI at_ 1042 T, aI cI aN 16 (fun _ => 0), aI cI aX 24 (upd (upd (upd (upd (upd (upd (upd (upd (upd (upd (upd (upd (upd (upd (upd (upd (upd (fun _ => 0) 0 79) 1 114) 2 112) 3 104) 4 101) 5 97) 6 110) 7 66) 8 101) 9 104) 10 111) 11 108) 12 100) 13 101) 14 114) 15 83) 16 99)] := hD
      refine lv_dup hx hb dX1_hash_131 rfl ?_
      refine lv_bipush (v := 17) hx hb dX1_hash_132 (by decide) ?_
      refine lv_bipush (v := 114) hx hb dX1_hash_134 (by decide) ?_
      refine cx_iast hx hb hK hP hD hS 6 0 rfl rfl (17) (rfl) (by decide) (by decide) dX1_hash_136 (fun H locs hP hD hS => ?_)
      have hP : va_P (dC, dI) vwCl [(h0, .inr (1, [.ref aw, .int (nI z), .ref as_, .ref ao, .ref at_, .int lf, .int rt])), aI cI aw 72 fw, aI cI as_ 16 fs, aI cI ao 24 fo, aI cI at_ 1042 T, aI cI aN 16 (fun _ => 0), aI cI aX 24 (upd (upd (upd (upd (upd (upd (upd (upd (upd (upd (upd (upd (upd (upd (upd (upd (upd (upd (fun _ => 0) 0 79) 1 114) 2 112) 3 104) 4 101) 5 97) 6 110) 7 66) 8 101) 9 104) 10 111) 11 108) 12 100) 13 101) 14 114) 15 83) 16 99) 17 114)] H := hP
      have hD : va_D A [(h0, .inr (1, [.ref aw, .int (nI z), .ref as_, .ref ao, .ref at_, .int lf, .int rt])), aI cI aw 72 fw, aI cI as_ 16 fs, aI cI ao 24 fo, aI cI at_ 1042 T, aI cI aN 16 (fun _ => 0), aI cI aX 24 (upd (upd (upd (upd (upd (upd (upd (upd (upd (upd (upd (upd (upd (upd (upd (upd (upd (upd (fun _ => 0) 0 79) 1 114) 2 112) 3 104) 4 101) 5 97) 6 110) 7 66) 8 101) 9 104) 10 111) 11 108) 12 100) 13 101) 14 114) 15 83) 16 99) 17 114)] := hD
      refine lv_dup hx hb dX1_hash_137 rfl ?_
      refine lv_bipush (v := 18) hx hb dX1_hash_138 (by decide) ?_
      refine lv_bipush (v := 121) hx hb dX1_hash_140 (by decide) ?_
      refine cx_iast hx hb hK hP hD hS 6 0 rfl rfl (18) (rfl) (by decide) (by decide) dX1_hash_142 (fun H locs hP hD hS => ?_)
      have hP : va_P (dC, dI) vwCl [(h0, .inr (1, [.ref aw, .int (nI z), .ref as_, .ref ao, .ref at_, .int lf, .int rt])), aI cI aw 72 fw, aI cI as_ 16 fs, aI cI ao 24 fo, aI cI at_ 1042 T, aI cI aN 16 (fun _ => 0), aI cI aX 24 (upd (upd (upd (upd (upd (upd (upd (upd (upd (upd (upd (upd (upd (upd (upd (upd (upd (upd (upd (fun _ => 0) 0 79) 1 114) 2 112) 3 104) 4 101) 5 97) 6 110) 7 66) 8 101) 9 104) 10 111) 11 108) 12 100) 13 101) 14 114) 15 83) 16 99) 17 114) 18 121)] H := hP
      have hD : va_D A [(h0, .inr (1, [.ref aw, .int (nI z), .ref as_, .ref ao, .ref at_, .int lf, .int rt])), aI cI aw 72 fw, aI cI as_ 16 fs, aI cI ao 24 fo, aI cI at_ 1042 T, aI cI aN 16 (fun _ => 0), aI cI aX 24 (upd (upd (upd (upd (upd (upd (upd (upd (upd (upd (upd (upd (upd (upd (upd (upd (upd (upd (upd (fun _ => 0) 0 79) 1 114) 2 112) 3 104) 4 101) 5 97) 6 110) 7 66) 8 101) 9 104) 10 111) 11 108) 12 100) 13 101) 14 114) 15 83) 16 99) 17 114) 18 121)] := hD
      refine lv_dup hx hb dX1_hash_143 rfl ?_
      refine lv_bipush (v := 19) hx hb dX1_hash_144 (by decide) ?_
      refine lv_bipush (v := 68) hx hb dX1_hash_146 (by decide) ?_
      refine cx_iast hx hb hK hP hD hS 6 0 rfl rfl (19) (rfl) (by decide) (by decide) dX1_hash_148 (fun H locs hP hD hS => ?_)
      have hP : va_P (dC, dI) vwCl [(h0, .inr (1, [.ref aw, .int (nI z), .ref as_, .ref ao, .ref at_, .int lf, .int rt])), aI cI aw 72 fw, aI cI as_ 16 fs, aI cI ao 24 fo, aI cI at_ 1042 T, aI cI aN 16 (fun _ => 0), aI cI aX 24 (upd (upd (upd (upd (upd (upd (upd (upd (upd (upd (upd (upd (upd (upd (upd (upd (upd (upd (upd (upd (fun _ => 0) 0 79) 1 114) 2 112) 3 104) 4 101) 5 97) 6 110) 7 66) 8 101) 9 104) 10 111) 11 108) 12 100) 13 101) 14 114) 15 83) 16 99) 17 114) 18 121) 19 68)] H := hP
      have hD : va_D A [(h0, .inr (1, [.ref aw, .int (nI z), .ref as_, .ref ao, .ref at_, .int lf, .int rt])), aI cI aw 72 fw, aI cI as_ 16 fs, aI cI ao 24 fo, aI cI at_ 1042 T, aI cI aN 16 (fun _ => 0), aI cI aX 24 (upd (upd (upd (upd (upd (upd (upd (upd (upd (upd (upd (upd (upd (upd (upd (upd (upd (upd (upd (upd (fun _ => 0) 0 79) 1 114) 2 112) 3 104) 4 101) 5 97) 6 110) 7 66) 8 101) 9 104) 10 111) 11 108) 12 100) 13 101) 14 114) 15 83) 16 99) 17 114) 18 121) 19 68)] := hD
      refine lv_dup hx hb dX1_hash_149 rfl ?_
      refine lv_bipush (v := 20) hx hb dX1_hash_150 (by decide) ?_
      refine lv_bipush (v := 111) hx hb dX1_hash_152 (by decide) ?_
      refine cx_iast hx hb hK hP hD hS 6 0 rfl rfl (20) (rfl) (by decide) (by decide) dX1_hash_154 (fun H locs hP hD hS => ?_)
      have hP : va_P (dC, dI) vwCl [(h0, .inr (1, [.ref aw, .int (nI z), .ref as_, .ref ao, .ref at_, .int lf, .int rt])), aI cI aw 72 fw, aI cI as_ 16 fs, aI cI ao 24 fo, aI cI at_ 1042 T, aI cI aN 16 (fun _ => 0), aI cI aX 24 (upd (upd (upd (upd (upd (upd (upd (upd (upd (upd (upd (upd (upd (upd (upd (upd (upd (upd (upd (upd (upd (fun _ => 0) 0 79) 1 114) 2 112) 3 104) 4 101) 5 97) 6 110) 7 66) 8 101) 9 104) 10 111) 11 108) 12 100) 13 101) 14 114) 15 83) 16 99) 17 114) 18 121) 19 68) 20 111)] H := hP
      have hD : va_D A [(h0, .inr (1, [.ref aw, .int (nI z), .ref as_, .ref ao, .ref at_, .int lf, .int rt])), aI cI aw 72 fw, aI cI as_ 16 fs, aI cI ao 24 fo, aI cI at_ 1042 T, aI cI aN 16 (fun _ => 0), aI cI aX 24 (upd (upd (upd (upd (upd (upd (upd (upd (upd (upd (upd (upd (upd (upd (upd (upd (upd (upd (upd (upd (upd (fun _ => 0) 0 79) 1 114) 2 112) 3 104) 4 101) 5 97) 6 110) 7 66) 8 101) 9 104) 10 111) 11 108) 12 100) 13 101) 14 114) 15 83) 16 99) 17 114) 18 121) 19 68) 20 111)] := hD
      refine lv_dup hx hb dX1_hash_155 rfl ?_
      refine lv_bipush (v := 21) hx hb dX1_hash_156 (by decide) ?_
      refine lv_bipush (v := 117) hx hb dX1_hash_158 (by decide) ?_
      refine cx_iast hx hb hK hP hD hS 6 0 rfl rfl (21) (rfl) (by decide) (by decide) dX1_hash_160 (fun H locs hP hD hS => ?_)
      have hP : va_P (dC, dI) vwCl [(h0, .inr (1, [.ref aw, .int (nI z), .ref as_, .ref ao, .ref at_, .int lf, .int rt])), aI cI aw 72 fw, aI cI as_ 16 fs, aI cI ao 24 fo, aI cI at_ 1042 T, aI cI aN 16 (fun _ => 0), aI cI aX 24 (upd (upd (upd (upd (upd (upd (upd (upd (upd (upd (upd (upd (upd (upd (upd (upd (upd (upd (upd (upd (upd (upd (fun _ => 0) 0 79) 1 114) 2 112) 3 104) 4 101) 5 97) 6 110) 7 66) 8 101) 9 104) 10 111) 11 108) 12 100) 13 101) 14 114) 15 83) 16 99) 17 114) 18 121) 19 68) 20 111) 21 117)] H := hP
      have hD : va_D A [(h0, .inr (1, [.ref aw, .int (nI z), .ref as_, .ref ao, .ref at_, .int lf, .int rt])), aI cI aw 72 fw, aI cI as_ 16 fs, aI cI ao 24 fo, aI cI at_ 1042 T, aI cI aN 16 (fun _ => 0), aI cI aX 24 (upd (upd (upd (upd (upd (upd (upd (upd (upd (upd (upd (upd (upd (upd (upd (upd (upd (upd (upd (upd (upd (upd (fun _ => 0) 0 79) 1 114) 2 112) 3 104) 4 101) 5 97) 6 110) 7 66) 8 101) 9 104) 10 111) 11 108) 12 100) 13 101) 14 114) 15 83) 16 99) 17 114) 18 121) 19 68) 20 111) 21 117)] := hD
      refine lv_dup hx hb dX1_hash_161 rfl ?_
      refine lv_bipush (v := 22) hx hb dX1_hash_162 (by decide) ?_
      refine lv_bipush (v := 98) hx hb dX1_hash_164 (by decide) ?_
      refine cx_iast hx hb hK hP hD hS 6 0 rfl rfl (22) (rfl) (by decide) (by decide) dX1_hash_166 (fun H locs hP hD hS => ?_)
      have hP : va_P (dC, dI) vwCl [(h0, .inr (1, [.ref aw, .int (nI z), .ref as_, .ref ao, .ref at_, .int lf, .int rt])), aI cI aw 72 fw, aI cI as_ 16 fs, aI cI ao 24 fo, aI cI at_ 1042 T, aI cI aN 16 (fun _ => 0), aI cI aX 24 (upd (upd (upd (upd (upd (upd (upd (upd (upd (upd (upd (upd (upd (upd (upd (upd (upd (upd (upd (upd (upd (upd (upd (fun _ => 0) 0 79) 1 114) 2 112) 3 104) 4 101) 5 97) 6 110) 7 66) 8 101) 9 104) 10 111) 11 108) 12 100) 13 101) 14 114) 15 83) 16 99) 17 114) 18 121) 19 68) 20 111) 21 117) 22 98)] H := hP
      have hD : va_D A [(h0, .inr (1, [.ref aw, .int (nI z), .ref as_, .ref ao, .ref at_, .int lf, .int rt])), aI cI aw 72 fw, aI cI as_ 16 fs, aI cI ao 24 fo, aI cI at_ 1042 T, aI cI aN 16 (fun _ => 0), aI cI aX 24 (upd (upd (upd (upd (upd (upd (upd (upd (upd (upd (upd (upd (upd (upd (upd (upd (upd (upd (upd (upd (upd (upd (upd (fun _ => 0) 0 79) 1 114) 2 112) 3 104) 4 101) 5 97) 6 110) 7 66) 8 101) 9 104) 10 111) 11 108) 12 100) 13 101) 14 114) 15 83) 16 99) 17 114) 18 121) 19 68) 20 111) 21 117) 22 98)] := hD
      refine lv_dup hx hb dX1_hash_167 rfl ?_
      refine lv_bipush (v := 23) hx hb dX1_hash_168 (by decide) ?_
      refine lv_bipush (v := 116) hx hb dX1_hash_170 (by decide) ?_
      refine cx_iast hx hb hK hP hD hS 6 0 rfl rfl (23) (rfl) (by decide) (by decide) dX1_hash_172 (fun H locs hP hD hS => ?_)
      have hP : va_P (dC, dI) vwCl [(h0, .inr (1, [.ref aw, .int (nI z), .ref as_, .ref ao, .ref at_, .int lf, .int rt])), aI cI aw 72 fw, aI cI as_ 16 fs, aI cI ao 24 fo, aI cI at_ 1042 T, aI cI aN 16 (fun _ => 0), aI cI aX 24 (upd (upd (upd (upd (upd (upd (upd (upd (upd (upd (upd (upd (upd (upd (upd (upd (upd (upd (upd (upd (upd (upd (upd (upd (fun _ => 0) 0 79) 1 114) 2 112) 3 104) 4 101) 5 97) 6 110) 7 66) 8 101) 9 104) 10 111) 11 108) 12 100) 13 101) 14 114) 15 83) 16 99) 17 114) 18 121) 19 68) 20 111) 21 117) 22 98) 23 116)] H := hP
      have hD : va_D A [(h0, .inr (1, [.ref aw, .int (nI z), .ref as_, .ref ao, .ref at_, .int lf, .int rt])), aI cI aw 72 fw, aI cI as_ 16 fs, aI cI ao 24 fo, aI cI at_ 1042 T, aI cI aN 16 (fun _ => 0), aI cI aX 24 (upd (upd (upd (upd (upd (upd (upd (upd (upd (upd (upd (upd (upd (upd (upd (upd (upd (upd (upd (upd (upd (upd (upd (upd (fun _ => 0) 0 79) 1 114) 2 112) 3 104) 4 101) 5 97) 6 110) 7 66) 8 101) 9 104) 10 111) 11 108) 12 100) 13 101) 14 114) 15 83) 16 99) 17 114) 18 121) 19 68) 20 111) 21 117) 22 98) 23 116)] := hD
      refine lv_astore_n (lv' := [(3, .ref aX), (2, .ref aN), (0, .ref h0), (1, .int x)]) hx hb dX1_hash_173 rfl hl (by decide) rfl (fun ls hl => ?_)
      have hM : ∀ b, b < 3 → bf_4 (upd (upd (upd (upd (upd (upd (upd (upd (upd (upd (upd (upd (upd (upd (upd (upd (upd (upd (upd (upd (upd (upd (upd (upd (fun _ => 0) 0 79) 1 114) 2 112) 3 104) 4 101) 5 97) 6 110) 7 66) 8 101) 9 104) 10 111) 11 108) 12 100) 13 101) 14 114) 15 83) 16 99) 17 114) 18 121) 19 68) 20 111) 21 117) 22 98) 23 116) 24 (8 * b) 4 = bf_Mg (2 * b) ∧ bf_4 (upd (upd (upd (upd (upd (upd (upd (upd (upd (upd (upd (upd (upd (upd (upd (upd (upd (upd (upd (upd (upd (upd (upd (upd (fun _ => 0) 0 79) 1 114) 2 112) 3 104) 4 101) 5 97) 6 110) 7 66) 8 101) 9 104) 10 111) 11 108) 12 100) 13 101) 14 114) 15 83) 16 99) 17 114) 18 121) 19 68) 20 111) 21 117) 22 98) 23 116) 24 (8 * b + 4) 4 = bf_Mg (2 * b + 1) := by decide +kernel
      generalize hgx : upd (upd (upd (upd (upd (upd (upd (upd (upd (upd (upd (upd (upd (upd (upd (upd (upd (upd (upd (upd (upd (upd (upd (upd (fun _ => 0) 0 79) 1 114) 2 112) 3 104) 4 101) 5 97) 6 110) 7 66) 8 101) 9 104) 10 111) 11 108) 12 100) 13 101) 14 114) 15 83) 16 99) 17 114) 18 121) 19 68) 20 111) 21 117) 22 98) 23 116 = tx at hP hD hM
      refine lv_aload_n hx hb dX1_hash_174 rfl (lv_at hl 2 rfl) ?_
      refine lv_aload_n hx hb dX1_hash_175 rfl (lv_at hl 2 rfl) ?_
      refine va_get (D := (dC, dI)) (ci := 1) (v := .ref aw) (C := RX1) (T := TX1) (N := 7) hx hb hts in_X1 hown hK hP 0 rfl rfl 0 (by decide) (hts _ q248) (fun _ h9 => h9) rfl dX1_hash_176 ?_
      refine lv_aload_n hx hb dX1_hash_179 rfl (lv_at hl 2 rfl) ?_
      refine va_get (D := (dC, dI)) (ci := 1) (v := .int (nI z)) (C := RX1) (T := TX1) (N := 7) hx hb hts in_X1 hown hK hP 0 rfl rfl 1 (by decide) (hts _ q249) (fun _ h9 => h9) rfl dX1_hash_180 ?_
      refine lv_aload_n hx hb dX1_hash_183 rfl (lv_at hl 2 rfl) ?_
      refine va_get (D := (dC, dI)) (ci := 1) (v := .ref as_) (C := RX1) (T := TX1) (N := 7) hx hb hts in_X1 hown hK hP 0 rfl rfl 2 (by decide) (hts _ q250) (fun _ h9 => h9) rfl dX1_hash_184 ?_
      refine cx_callv (wr := [aI cI ao 24 fo, aI cI aN 16 (fun _ => 0), aI cI aX 24 tx]) (va_runV (As := [.ref aw, .int (nI z), .ref as_]) (rest := []) ⟨hx, hb, hml, hown, hts⟩ (met_spread l dC dI cI cB h0 aw as_ ao at_ z lf rt T aw as_ 72 z fw fs hz hz2 (by decide) H.size) (cwV 3 hts (lw_V q292 q294 qs8 q12 q295) rfl rfl rfl (by decide +kernel) ⟨Nat.le_of_ble_eq_true rfl, Nat.le_of_ble_eq_true rfl⟩) (cx_preV (ci := 1) (q0 := 0) rfl rfl hP hD hK [0, 4, 1, 2] rfl (by decide) rfl (cx_No_b) (fun _ _ _ => trivial)) rfl rfl hl.1 rfl (lv_room (Nat.le_of_ble_eq_true rfl)) dX1_hash_187 ⟨Nat.le_of_ble_eq_true rfl, Nat.le_of_ble_eq_true rfl⟩) hP hD hS hA [0, 4, 1, 2] [3, 5, 6] rfl rfl (by decide) (by decide) (fun u0 H locs _ hP hD hS => ?_)
      obtain ⟨l1, r1⟩ := u0
      have hP : va_P (dC, dI) vwCl [aI cI ao 24 fo, aI cI aN 16 (fun _ => 0), aI cI aX 24 tx, (h0, .inr (1, [.ref aw, .int (nI z), .ref as_, .ref ao, .ref at_, .int l1, .int r1])), aI cI at_ 1042 (bf_spr (bf_kf fw z) (bf_ws fs) T), aI cI aw 72 fw, aI cI as_ 16 fs] H := hP
      have hD : va_D A [aI cI ao 24 fo, aI cI aN 16 (fun _ => 0), aI cI aX 24 tx, (h0, .inr (1, [.ref aw, .int (nI z), .ref as_, .ref ao, .ref at_, .int l1, .int r1])), aI cI at_ 1042 (bf_spr (bf_kf fw z) (bf_ws fs) T), aI cI aw 72 fw, aI cI as_ 16 fs] := hD
      refine lv_iconst (v := nI 0) hx hb dX1_hash_190 (by decide) ?_
      refine lv_istore (lv' := [(4, .int (nI 0)), (3, .ref aX), (2, .ref aN), (0, .ref h0), (1, .int x)]) hx hb dX1_hash_191 hl (by decide) rfl (fun ls hl => ?_)
      refine W.widen (k := 2) (n := 40) (by decide) (by decide) ?_
      skip
      have reps : ∀ (k i : Nat), i + k = 2 ^ bf_cs x → ∀ (f1 : Nat → Int32) (l1 r1 : Int32) (H : Heap) (locs : List Loc) (ls : Array Slot), f1 = (bf_rep (bf_kf fw z) (bf_kf fs 16) i (bf_spr (bf_kf fw z) (bf_ws fs) T)) → va_P (dC, dI) vwCl [(h0, .inr (1, [.ref aw, .int (nI z), .ref as_, .ref ao, .ref at_, .int l1, .int r1])), aI cI aw 72 fw, aI cI as_ 16 fs, aI cI ao 24 fo, aI cI at_ 1042 f1, aI cI aN 16 (fun _ => 0), aI cI aX 24 tx] H → va_D A [(h0, .inr (1, [.ref aw, .int (nI z), .ref as_, .ref ao, .ref at_, .int l1, .int r1])), aI cI aw 72 fw, aI cI as_ 16 fs, aI cI ao 24 fo, aI cI at_ 1042 f1, aI cI aN 16 (fun _ => 0), aI cI aX 24 tx] → va_S A s.heap H locs → lv_has ls 6 [(0, .ref h0), (1, .int x), (2, .ref aN), (3, .ref aX), (4, .int (nI i))] → W p l e (headSpec (ws_ yX1_hash cX1_hash 6 none) ({ frames := 2, cells := 2, slots := 40, locals := 49 } : Room)).room s m ([.ref h0, .int x] : List Value).toArray below meth c H locs 2 40 Q (F0 m 193 ls []) := by
        have hpw := bf_cs_p x
        intro k
        induction k with
        | zero =>
          intro i hi f1 l1 r1 H locs ls hf1 hP hD hS hl
          refine lv_iload hx hb dX1_hash_193 (lv_at hl 4 rfl) ?_
          refine lv_iconst (v := 1) hx hb dX1_hash_195 (by decide) ?_
          refine lv_iconst (v := 4) hx hb dX1_hash_196 (by decide) ?_
          refine lv_iload_n hx hb dX1_hash_197 rfl (lv_at hl 1 rfl) ?_
          refine lv_iconst (v := 1) hx hb dX1_hash_198 (by decide) ?_
          refine lv_iand hx hb dX1_hash_199 ?_
          refine lv_iadd hx hb dX1_hash_200 ?_
          refine lv_ishl hx hb dX1_hash_201 ?_
          refine cx_top (nI (2 ^ bf_cs x)) (by rw [bf_cs_e x]; exact bf_cs_r x) ?_
          refine lv_icmp_ge (tgt := 235) hx hb dX1_hash_202 (by decide) (fun _ => ?_) (fun c9 => absurd (nI_le (by omega) (by omega)) c9)
          refine lv_iconst (v := nI (8 * 0)) hx hb dX1_hash_235 (by decide) ?_
          refine lv_istore (lv' := [(4, .int (nI (8 * 0))), (0, .ref h0), (1, .int x), (2, .ref aN), (3, .ref aX)]) hx hb dX1_hash_236 hl (by decide) rfl (fun ls hl => ?_)
          have hf2 : f1 = (bf_fin fw z fs (2 ^ bf_cs x) T) := by rw [hf1, show i = 2 ^ bf_cs x by omega]; rfl
          clear hf1
          have outs : ∀ (k b : Nat), b + k = 3 → ∀ (f2 : Nat → Int32) (l1 r1 : Int32) (H : Heap) (locs : List Loc) (ls : Array Slot), (∀ j, j < 8 * b → f2 j = bf_by (bf_out f1 bf_Mg (j / 4)) (j % 4)) → va_P (dC, dI) vwCl [(h0, .inr (1, [.ref aw, .int (nI z), .ref as_, .ref ao, .ref at_, .int l1, .int r1])), aI cI aw 72 fw, aI cI as_ 16 fs, aI cI ao 24 f2, aI cI at_ 1042 f1, aI cI aN 16 (fun _ => 0), aI cI aX 24 tx] H → va_D A [(h0, .inr (1, [.ref aw, .int (nI z), .ref as_, .ref ao, .ref at_, .int l1, .int r1])), aI cI aw 72 fw, aI cI as_ 16 fs, aI cI ao 24 f2, aI cI at_ 1042 f1, aI cI aN 16 (fun _ => 0), aI cI aX 24 tx] → va_S A s.heap H locs → lv_has ls 6 [(0, .ref h0), (3, .ref aX), (4, .int (nI (8 * b)))] → W p l e (headSpec (ws_ yX1_hash cX1_hash 6 none) ({ frames := 2, cells := 2, slots := 40, locals := 49 } : Room)).room s m ([.ref h0, .int x] : List Value).toArray below meth c H locs 2 40 Q (F0 m 238 ls []) := by
            intro k
            induction k with
            | zero =>
              intro b hb3 f2 l1 r1 H locs ls hf3 hP hD hS hl
              refine lv_iload hx hb dX1_hash_238 (lv_at hl 2 rfl) ?_
              refine lv_bipush (v := nI 24) hx hb dX1_hash_240 (by decide) ?_
              refine lv_icmp_ge (tgt := 329) hx hb dX1_hash_242 (by decide) (fun _ => ?_) (fun c9 => absurd (nI_le (by omega) (by omega)) c9)
              subst hQe
              subst hAe
              exact W.vret hx hb hr (fun t ht hW => ⟨⟨(f2, f1, l1, r1), rfl, fun j hj => by rw [← hf2]; exact hf3 j (by omega), by rw [ht]; exact hP.sub [0, 1, 2, 3, 4] rfl, hD.sub [0, 1, 2, 3, 4] (by decide) rfl⟩, hS.F ht⟩) hS.2.2 dX1_hash_329
            | succ k ih3 =>
              intro b hb3 f2 l1 r1 H locs ls hf3 hP hD hS hl
              refine lv_iload hx hb dX1_hash_238 (lv_at hl 2 rfl) ?_
              refine lv_bipush (v := nI 24) hx hb dX1_hash_240 (by decide) ?_
              refine lv_icmp_ge (tgt := 329) hx hb dX1_hash_242 (by decide) (fun c9 => absurd c9 (nI_ge (by omega) (by omega))) (fun _ => ?_)
              refine lv_aload_n hx hb dX1_hash_245 rfl (lv_at hl 0 rfl) ?_
              refine lv_aload_n hx hb dX1_hash_246 rfl (lv_at hl 1 rfl) ?_
              refine lv_bipush (v := nI 24) hx hb dX1_hash_247 (by decide) ?_
              refine lv_iload hx hb dX1_hash_249 (lv_at hl 2 rfl) ?_
              refine vp_callSi (va_runS (As := [.ref aX, .int (nI 24), .int (nI (8 * b))]) (rest := [.ref h0]) ⟨hx, hb, hml, hown, hts⟩ (met_four l dC dI cI cB aX 24 24 (8 * b) tx (by decide) (by decide) (by decide) (by omega)) (va_cwS 3 hts (lw_S q296 q297 q12 q298) rfl rfl rfl (by decide +kernel) ⟨Nat.le_of_ble_eq_true rfl, Nat.le_of_ble_eq_true rfl⟩) (cx_ppS hP hK [6] rfl) rfl rfl hl.1 rfl (lv_room (Nat.le_of_ble_eq_true rfl)) dX1_hash_251 ⟨Nat.le_of_ble_eq_true rfl, Nat.le_of_ble_eq_true rfl⟩).run (fun r_1 hr_1 => ?_)
              obtain rfl : r_1 = bf_4 tx 24 (8 * b) 4 := hr_1
              refine cx_top (bf_Mg (2 * b)) ((hM b (by omega)).1) ?_
              refine va_put (D := (dC, dI)) (ci := 1) (v := .int (bf_Mg (2 * b))) (ty := .int) (C := RX1) (T := TX1) (N := 7) hx hb hts in_X1 tyX1 tyX1_ok nmX1 hown hK hP hD hS 0 rfl rfl 5 (by decide) (hts _ q253) (fun _ h9 => h9) rfl (by decide +kernel) rfl rfl (Nat.le_of_ble_eq_true rfl) dX1_hash_254 (fun H locs hP hD hS => ?_)
              have hP : va_P (dC, dI) vwCl [(h0, .inr (1, [.ref aw, .int (nI z), .ref as_, .ref ao, .ref at_, .int (bf_Mg (2 * b)), .int r1])), aI cI aw 72 fw, aI cI as_ 16 fs, aI cI ao 24 f2, aI cI at_ 1042 f1, aI cI aN 16 (fun _ => 0), aI cI aX 24 tx] H := hP
              have hD : va_D A [(h0, .inr (1, [.ref aw, .int (nI z), .ref as_, .ref ao, .ref at_, .int (bf_Mg (2 * b)), .int r1])), aI cI aw 72 fw, aI cI as_ 16 fs, aI cI ao 24 f2, aI cI at_ 1042 f1, aI cI aN 16 (fun _ => 0), aI cI aX 24 tx] := hD
              refine lv_aload_n hx hb dX1_hash_257 rfl (lv_at hl 0 rfl) ?_
              refine lv_aload_n hx hb dX1_hash_258 rfl (lv_at hl 1 rfl) ?_
              refine lv_bipush (v := nI 24) hx hb dX1_hash_259 (by decide) ?_
              refine lv_iload hx hb dX1_hash_261 (lv_at hl 2 rfl) ?_
              refine lv_iconst (v := 4) hx hb dX1_hash_263 (by decide) ?_
              refine lv_iadd hx hb dX1_hash_264 ?_
              refine cx_top (nI (8 * b + 4)) (nI_add (8 * b) 4) ?_
              refine vp_callSi (va_runS (As := [.ref aX, .int (nI 24), .int (nI (8 * b + 4))]) (rest := [.ref h0]) ⟨hx, hb, hml, hown, hts⟩ (met_four l dC dI cI cB aX 24 24 (8 * b + 4) tx (by decide) (by decide) (by decide) (by omega)) (va_cwS 3 hts (lw_S q296 q297 q12 q298) rfl rfl rfl (by decide +kernel) ⟨Nat.le_of_ble_eq_true rfl, Nat.le_of_ble_eq_true rfl⟩) (cx_ppS hP hK [6] rfl) rfl rfl hl.1 rfl (lv_room (Nat.le_of_ble_eq_true rfl)) dX1_hash_265 ⟨Nat.le_of_ble_eq_true rfl, Nat.le_of_ble_eq_true rfl⟩).run (fun r_2 hr_2 => ?_)
              obtain rfl : r_2 = bf_4 tx 24 (8 * b + 4) 4 := hr_2
              refine cx_top (bf_Mg (2 * b + 1)) ((hM b (by omega)).2) ?_
              refine va_put (D := (dC, dI)) (ci := 1) (v := .int (bf_Mg (2 * b + 1))) (ty := .int) (C := RX1) (T := TX1) (N := 7) hx hb hts in_X1 tyX1 tyX1_ok nmX1 hown hK hP hD hS 0 rfl rfl 6 (by decide) (hts _ q254) (fun _ h9 => h9) rfl (by decide +kernel) rfl rfl (Nat.le_of_ble_eq_true rfl) dX1_hash_268 (fun H locs hP hD hS => ?_)
              have hP : va_P (dC, dI) vwCl [(h0, .inr (1, [.ref aw, .int (nI z), .ref as_, .ref ao, .ref at_, .int (bf_Mg (2 * b)), .int (bf_Mg (2 * b + 1))])), aI cI aw 72 fw, aI cI as_ 16 fs, aI cI ao 24 f2, aI cI at_ 1042 f1, aI cI aN 16 (fun _ => 0), aI cI aX 24 tx] H := hP
              have hD : va_D A [(h0, .inr (1, [.ref aw, .int (nI z), .ref as_, .ref ao, .ref at_, .int (bf_Mg (2 * b)), .int (bf_Mg (2 * b + 1))])), aI cI aw 72 fw, aI cI as_ 16 fs, aI cI ao 24 f2, aI cI at_ 1042 f1, aI cI aN 16 (fun _ => 0), aI cI aX 24 tx] := hD
              refine lv_iconst (v := nI 0) hx hb dX1_hash_271 (by decide) ?_
              refine lv_istore (lv' := [(5, .int (nI 0)), (0, .ref h0), (3, .ref aX), (4, .int (nI (8 * b)))]) hx hb dX1_hash_272 hl (by decide) rfl (fun ls hl => ?_)
              have locks : ∀ (k q : Nat), q + k = 64 → ∀ (l2 r2 : Int32) (H : Heap) (locs : List Loc) (ls : Array Slot), bf_encN f1 q (bf_Mg (2 * b), bf_Mg (2 * b + 1)) = (l2, r2) → va_P (dC, dI) vwCl [(h0, .inr (1, [.ref aw, .int (nI z), .ref as_, .ref ao, .ref at_, .int l2, .int r2])), aI cI aw 72 fw, aI cI as_ 16 fs, aI cI ao 24 f2, aI cI at_ 1042 f1, aI cI aN 16 (fun _ => 0), aI cI aX 24 tx] H → va_D A [(h0, .inr (1, [.ref aw, .int (nI z), .ref as_, .ref ao, .ref at_, .int l2, .int r2])), aI cI aw 72 fw, aI cI as_ 16 fs, aI cI ao 24 f2, aI cI at_ 1042 f1, aI cI aN 16 (fun _ => 0), aI cI aX 24 tx] → va_S A s.heap H locs → lv_has ls 6 [(0, .ref h0), (3, .ref aX), (4, .int (nI (8 * b))), (5, .int (nI q))] → W p l e (headSpec (ws_ yX1_hash cX1_hash 6 none) ({ frames := 2, cells := 2, slots := 40, locals := 49 } : Room)).room s m ([.ref h0, .int x] : List Value).toArray below meth c H locs 2 40 Q (F0 m 274 ls []) := by
                intro k
                induction k with
                | zero =>
                  intro q hq l2 r2 H locs ls he hP hD hS hl
                  refine lv_iload hx hb dX1_hash_274 (lv_at hl 3 rfl) ?_
                  refine lv_bipush (v := nI 64) hx hb dX1_hash_276 (by decide) ?_
                  refine lv_icmp_ge (tgt := 291) hx hb dX1_hash_278 (by decide) (fun _ => ?_) (fun c9 => absurd (nI_le (by omega) (by omega)) c9)
                  refine lv_aload_n hx hb dX1_hash_291 rfl (lv_at hl 0 rfl) ?_
                  refine va_get (D := (dC, dI)) (ci := 1) (v := .ref ao) (C := RX1) (T := TX1) (N := 7) hx hb hts in_X1 hown hK hP 0 rfl rfl 3 (by decide) (hts _ q251) (fun _ h9 => h9) rfl dX1_hash_292 ?_
                  refine lv_iload hx hb dX1_hash_295 (lv_at hl 2 rfl) ?_
                  refine lv_aload_n hx hb dX1_hash_297 rfl (lv_at hl 0 rfl) ?_
                  refine va_get (D := (dC, dI)) (ci := 1) (v := .int l2) (C := RX1) (T := TX1) (N := 7) hx hb hts in_X1 hown hK hP 0 rfl rfl 5 (by decide) (hts _ q253) (fun _ h9 => h9) rfl dX1_hash_298 ?_
                  refine cx_callv (wr := [(h0, .inr (1, [.ref aw, .int (nI z), .ref as_, .ref ao, .ref at_, .int l2, .int r2])), aI cI aw 72 fw, aI cI as_ 16 fs, aI cI at_ 1042 f1, aI cI aN 16 (fun _ => 0), aI cI aX 24 tx]) (va_runS (As := [.ref ao, .int (nI (8 * b)), .int l2]) (rest := []) ⟨hx, hb, hml, hown, hts⟩ (met_lay1 l dC dI cI cB ao 24 (8 * b) l2 f2 (by omega) (by decide) H.size) (va_cwS 3 hts (lw_S q275 q276 q12 q277) rfl rfl rfl (by decide +kernel) ⟨Nat.le_of_ble_eq_true rfl, Nat.le_of_ble_eq_true rfl⟩) (cx_preS hP hD hK [3] rfl (by decide) rfl (cx_No_b) (fun _ _ _ => trivial)) rfl rfl hl.1 rfl (lv_room (Nat.le_of_ble_eq_true rfl)) dX1_hash_301 ⟨Nat.le_of_ble_eq_true rfl, Nat.le_of_ble_eq_true rfl⟩) hP hD hS hA [3] [0, 1, 2, 4, 5, 6] rfl rfl (by decide) (by decide) (fun g1 H locs hg1 hP hD hS => ?_)
                  have hP : va_P (dC, dI) vwCl [(h0, .inr (1, [.ref aw, .int (nI z), .ref as_, .ref ao, .ref at_, .int l2, .int r2])), aI cI aw 72 fw, aI cI as_ 16 fs, aI cI at_ 1042 f1, aI cI aN 16 (fun _ => 0), aI cI aX 24 tx, aI cI ao 24 g1] H := hP
                  have hD : va_D A [(h0, .inr (1, [.ref aw, .int (nI z), .ref as_, .ref ao, .ref at_, .int l2, .int r2])), aI cI aw 72 fw, aI cI as_ 16 fs, aI cI at_ 1042 f1, aI cI aN 16 (fun _ => 0), aI cI aX 24 tx, aI cI ao 24 g1] := hD
                  refine lv_aload_n hx hb dX1_hash_304 rfl (lv_at hl 0 rfl) ?_
                  refine va_get (D := (dC, dI)) (ci := 1) (v := .ref ao) (C := RX1) (T := TX1) (N := 7) hx hb hts in_X1 hown hK hP 0 rfl rfl 3 (by decide) (hts _ q251) (fun _ h9 => h9) rfl dX1_hash_305 ?_
                  refine lv_iload hx hb dX1_hash_308 (lv_at hl 2 rfl) ?_
                  refine lv_iconst (v := 4) hx hb dX1_hash_310 (by decide) ?_
                  refine lv_iadd hx hb dX1_hash_311 ?_
                  refine cx_top (nI (8 * b + 4)) (nI_add (8 * b) 4) ?_
                  refine lv_aload_n hx hb dX1_hash_312 rfl (lv_at hl 0 rfl) ?_
                  refine va_get (D := (dC, dI)) (ci := 1) (v := .int r2) (C := RX1) (T := TX1) (N := 7) hx hb hts in_X1 hown hK hP 0 rfl rfl 6 (by decide) (hts _ q254) (fun _ h9 => h9) rfl dX1_hash_313 ?_
                  refine cx_callv (wr := [(h0, .inr (1, [.ref aw, .int (nI z), .ref as_, .ref ao, .ref at_, .int l2, .int r2])), aI cI aw 72 fw, aI cI as_ 16 fs, aI cI at_ 1042 f1, aI cI aN 16 (fun _ => 0), aI cI aX 24 tx]) (va_runS (As := [.ref ao, .int (nI (8 * b + 4)), .int r2]) (rest := []) ⟨hx, hb, hml, hown, hts⟩ (met_lay1 l dC dI cI cB ao 24 (8 * b + 4) r2 g1 (by omega) (by decide) H.size) (va_cwS 3 hts (lw_S q275 q276 q12 q277) rfl rfl rfl (by decide +kernel) ⟨Nat.le_of_ble_eq_true rfl, Nat.le_of_ble_eq_true rfl⟩) (cx_preS hP hD hK [6] rfl (by decide) rfl (cx_No_b) (fun _ _ _ => trivial)) rfl rfl hl.1 rfl (lv_room (Nat.le_of_ble_eq_true rfl)) dX1_hash_316 ⟨Nat.le_of_ble_eq_true rfl, Nat.le_of_ble_eq_true rfl⟩) hP hD hS hA [6] [0, 1, 2, 3, 4, 5] rfl rfl (by decide) (by decide) (fun g2 H locs hg2 hP hD hS => ?_)
                  have hP : va_P (dC, dI) vwCl [(h0, .inr (1, [.ref aw, .int (nI z), .ref as_, .ref ao, .ref at_, .int l2, .int r2])), aI cI aw 72 fw, aI cI as_ 16 fs, aI cI at_ 1042 f1, aI cI aN 16 (fun _ => 0), aI cI aX 24 tx, aI cI ao 24 g2] H := hP
                  have hD : va_D A [(h0, .inr (1, [.ref aw, .int (nI z), .ref as_, .ref ao, .ref at_, .int l2, .int r2])), aI cI aw 72 fw, aI cI as_ 16 fs, aI cI at_ 1042 f1, aI cI aN 16 (fun _ => 0), aI cI aX 24 tx, aI cI ao 24 g2] := hD
                  refine lv_iload hx hb dX1_hash_319 (lv_at hl 2 rfl) ?_
                  refine lv_bipush (v := 8) hx hb dX1_hash_321 (by decide) ?_
                  refine lv_iadd hx hb dX1_hash_323 ?_
                  refine cx_top (nI (8 * (b + 1))) (nI_add (8 * b) 8) ?_
                  refine lv_istore (lv' := [(4, .int (nI (8 * (b + 1)))), (0, .ref h0), (3, .ref aX), (5, .int (nI q))]) hx hb dX1_hash_324 hl (by decide) rfl (fun ls hl => ?_)
                  refine lv_goto (tgt := 238) hx hb dX1_hash_326 (by decide) ?_
                  exact ih3 (b + 1) (by omega) g2 l2 r2 H locs ls (bf_outm hf3 (by rw [show q = 64 by omega] at he; exact he) hg1 hg2) (hP.sub [0, 1, 2, 6, 3, 4, 5] rfl) (hD.sub [0, 1, 2, 6, 3, 4, 5] (by decide) rfl) hS (lv_sub hl [1, 2, 0] rfl)
                | succ k ih4 =>
                  intro q hq l2 r2 H locs ls he hP hD hS hl
                  refine lv_iload hx hb dX1_hash_274 (lv_at hl 3 rfl) ?_
                  refine lv_bipush (v := nI 64) hx hb dX1_hash_276 (by decide) ?_
                  refine lv_icmp_ge (tgt := 291) hx hb dX1_hash_278 (by decide) (fun c9 => absurd c9 (nI_ge (by omega) (by omega))) (fun _ => ?_)
                  refine lv_aload_n hx hb dX1_hash_281 rfl (lv_at hl 0 rfl) ?_
                  refine cx_callv (wr := [aI cI aw 72 fw, aI cI as_ 16 fs, aI cI ao 24 f2, aI cI aN 16 (fun _ => 0), aI cI aX 24 tx]) (va_runV (As := []) (rest := []) ⟨hx, hb, hml, hown, hts⟩ (met_lock l dC dI cI cB h0 aw as_ ao at_ z l2 r2 f1 H.size) (cwV 0 hts (lw_V q299 q301 qs9 q12 q302) rfl rfl rfl (by decide +kernel) ⟨Nat.le_of_ble_eq_true rfl, Nat.le_of_ble_eq_true rfl⟩) (cx_preV (ci := 1) (q0 := 0) rfl rfl hP hD hK [0, 4] rfl (by decide) rfl (cx_No_b) (fun _ _ _ => trivial)) rfl rfl hl.1 rfl (lv_room (Nat.le_of_ble_eq_true rfl)) dX1_hash_282 ⟨Nat.le_of_ble_eq_true rfl, Nat.le_of_ble_eq_true rfl⟩) hP hD hS hA [0, 4] [1, 2, 3, 5, 6] rfl rfl (by decide) (by decide) (fun u0 H locs _ hP hD hS => ?_)
                  have hP : va_P (dC, dI) vwCl [aI cI aw 72 fw, aI cI as_ 16 fs, aI cI ao 24 f2, aI cI aN 16 (fun _ => 0), aI cI aX 24 tx, (h0, .inr (1, [.ref aw, .int (nI z), .ref as_, .ref ao, .ref at_, .int ((bf_enc f1 (bf_S f1) (l2, r2)).1), .int ((bf_enc f1 (bf_S f1) (l2, r2)).2)])), aI cI at_ 1042 f1] H := hP
                  have hD : va_D A [aI cI aw 72 fw, aI cI as_ 16 fs, aI cI ao 24 f2, aI cI aN 16 (fun _ => 0), aI cI aX 24 tx, (h0, .inr (1, [.ref aw, .int (nI z), .ref as_, .ref ao, .ref at_, .int ((bf_enc f1 (bf_S f1) (l2, r2)).1), .int ((bf_enc f1 (bf_S f1) (l2, r2)).2)])), aI cI at_ 1042 f1] := hD
                  refine lv_iinc (v := nI (q + 1)) (lv' := [(5, .int (nI (q + 1))), (0, .ref h0), (3, .ref aX), (4, .int (nI (8 * b)))]) hx hb dX1_hash_285 hl (k := 3) rfl (nI_1 q) (by decide) rfl (fun ls hl => ?_)
                  refine lv_goto (tgt := 274) hx hb dX1_hash_288 (by decide) ?_
                  exact ih4 (q + 1) (by omega) _ _ H locs ls (by show bf_enc f1 (bf_S f1) (bf_encN f1 q (bf_Mg (2 * b), bf_Mg (2 * b + 1))) = _; rw [he]) (hP.sub [5, 0, 1, 2, 6, 3, 4] rfl) (hD.sub [5, 0, 1, 2, 6, 3, 4] (by decide) rfl) hS (lv_sub hl [1, 2, 3, 0] rfl)
              exact locks 64 0 (by omega) _ _ H locs ls rfl hP hD hS (lv_sub hl [1, 2, 3, 0] rfl)
          exact outs 3 0 (by omega) fo l1 r1 H locs ls (fun j hj => absurd hj (by omega)) hP hD hS (lv_sub hl [1, 4, 0] rfl)
        | succ k ih2 =>
          intro i hi f1 l1 r1 H locs ls hf1 hP hD hS hl
          refine lv_iload hx hb dX1_hash_193 (lv_at hl 4 rfl) ?_
          refine lv_iconst (v := 1) hx hb dX1_hash_195 (by decide) ?_
          refine lv_iconst (v := 4) hx hb dX1_hash_196 (by decide) ?_
          refine lv_iload_n hx hb dX1_hash_197 rfl (lv_at hl 1 rfl) ?_
          refine lv_iconst (v := 1) hx hb dX1_hash_198 (by decide) ?_
          refine lv_iand hx hb dX1_hash_199 ?_
          refine lv_iadd hx hb dX1_hash_200 ?_
          refine lv_ishl hx hb dX1_hash_201 ?_
          refine cx_top (nI (2 ^ bf_cs x)) (by rw [bf_cs_e x]; exact bf_cs_r x) ?_
          refine lv_icmp_ge (tgt := 235) hx hb dX1_hash_202 (by decide) (fun c9 => absurd c9 (nI_ge (by omega) (by omega))) (fun _ => ?_)
          refine lv_aload_n hx hb dX1_hash_205 rfl (lv_at hl 0 rfl) ?_
          refine lv_aload_n hx hb dX1_hash_206 rfl (lv_at hl 0 rfl) ?_
          refine va_get (D := (dC, dI)) (ci := 1) (v := .ref aw) (C := RX1) (T := TX1) (N := 7) hx hb hts in_X1 hown hK hP 0 rfl rfl 0 (by decide) (hts _ q248) (fun _ h9 => h9) rfl dX1_hash_207 ?_
          refine lv_aload_n hx hb dX1_hash_210 rfl (lv_at hl 0 rfl) ?_
          refine va_get (D := (dC, dI)) (ci := 1) (v := .int (nI z)) (C := RX1) (T := TX1) (N := 7) hx hb hts in_X1 hown hK hP 0 rfl rfl 1 (by decide) (hts _ q249) (fun _ h9 => h9) rfl dX1_hash_211 ?_
          refine lv_aload_n hx hb dX1_hash_214 rfl (lv_at hl 2 rfl) ?_
          refine cx_callv (wr := [aI cI as_ 16 fs, aI cI ao 24 fo, aI cI aX 24 tx]) (va_runV (As := [.ref aw, .int (nI z), .ref aN]) (rest := []) ⟨hx, hb, hml, hown, hts⟩ (met_spread l dC dI cI cB h0 aw as_ ao at_ z l1 r1 f1 aw aN 72 z fw (fun _ => 0) hz hz2 (by decide) H.size) (cwV 3 hts (lw_V q292 q294 qs8 q12 q295) rfl rfl rfl (by decide +kernel) ⟨Nat.le_of_ble_eq_true rfl, Nat.le_of_ble_eq_true rfl⟩) (cx_preV (ci := 1) (q0 := 0) rfl rfl hP hD hK [0, 4, 1, 5] rfl (by decide) rfl (cx_No_b) (fun _ _ _ => trivial)) rfl rfl hl.1 rfl (lv_room (Nat.le_of_ble_eq_true rfl)) dX1_hash_215 ⟨Nat.le_of_ble_eq_true rfl, Nat.le_of_ble_eq_true rfl⟩) hP hD hS hA [0, 4, 1, 5] [2, 3, 6] rfl rfl (by decide) (by decide) (fun u0 H locs _ hP hD hS => ?_)
          obtain ⟨l2, r2⟩ := u0
          have hP : va_P (dC, dI) vwCl [aI cI as_ 16 fs, aI cI ao 24 fo, aI cI aX 24 tx, (h0, .inr (1, [.ref aw, .int (nI z), .ref as_, .ref ao, .ref at_, .int l2, .int r2])), aI cI at_ 1042 (bf_spr (bf_kf fw z) (bf_ws (fun _ => 0)) f1), aI cI aw 72 fw, aI cI aN 16 (fun _ => 0)] H := hP
          have hD : va_D A [aI cI as_ 16 fs, aI cI ao 24 fo, aI cI aX 24 tx, (h0, .inr (1, [.ref aw, .int (nI z), .ref as_, .ref ao, .ref at_, .int l2, .int r2])), aI cI at_ 1042 (bf_spr (bf_kf fw z) (bf_ws (fun _ => 0)) f1), aI cI aw 72 fw, aI cI aN 16 (fun _ => 0)] := hD
          refine lv_aload_n hx hb dX1_hash_218 rfl (lv_at hl 0 rfl) ?_
          refine lv_aload_n hx hb dX1_hash_219 rfl (lv_at hl 0 rfl) ?_
          refine va_get (D := (dC, dI)) (ci := 1) (v := .ref as_) (C := RX1) (T := TX1) (N := 7) hx hb hts in_X1 hown hK hP 3 rfl rfl 2 (by decide) (hts _ q250) (fun _ h9 => h9) rfl dX1_hash_220 ?_
          refine lv_bipush (v := nI 16) hx hb dX1_hash_223 (by decide) ?_
          refine lv_aload_n hx hb dX1_hash_225 rfl (lv_at hl 2 rfl) ?_
          refine cx_callv (wr := [aI cI ao 24 fo, aI cI aX 24 tx, aI cI aw 72 fw]) (va_runV (As := [.ref as_, .int (nI 16), .ref aN]) (rest := []) ⟨hx, hb, hml, hown, hts⟩ (met_spread l dC dI cI cB h0 aw as_ ao at_ z l2 r2 (bf_spr (bf_kf fw z) (bf_ws (fun _ => 0)) f1) as_ aN 16 16 fs (fun _ => 0) (by decide) (by decide) (by decide) H.size) (cwV 3 hts (lw_V q292 q294 qs8 q12 q295) rfl rfl rfl (by decide +kernel) ⟨Nat.le_of_ble_eq_true rfl, Nat.le_of_ble_eq_true rfl⟩) (cx_preV (ci := 1) (q0 := 3) rfl rfl hP hD hK [3, 4, 0, 6] rfl (by decide) rfl (cx_No_b) (fun _ _ _ => trivial)) rfl rfl hl.1 rfl (lv_room (Nat.le_of_ble_eq_true rfl)) dX1_hash_226 ⟨Nat.le_of_ble_eq_true rfl, Nat.le_of_ble_eq_true rfl⟩) hP hD hS hA [3, 4, 0, 6] [1, 2, 5] rfl rfl (by decide) (by decide) (fun u1 H locs _ hP hD hS => ?_)
          obtain ⟨l3, r3⟩ := u1
          have hP : va_P (dC, dI) vwCl [aI cI ao 24 fo, aI cI aX 24 tx, aI cI aw 72 fw, (h0, .inr (1, [.ref aw, .int (nI z), .ref as_, .ref ao, .ref at_, .int l3, .int r3])), aI cI at_ 1042 (bf_spr (bf_kf fs 16) (bf_ws (fun _ => 0)) (bf_spr (bf_kf fw z) (bf_ws (fun _ => 0)) f1)), aI cI as_ 16 fs, aI cI aN 16 (fun _ => 0)] H := hP
          have hD : va_D A [aI cI ao 24 fo, aI cI aX 24 tx, aI cI aw 72 fw, (h0, .inr (1, [.ref aw, .int (nI z), .ref as_, .ref ao, .ref at_, .int l3, .int r3])), aI cI at_ 1042 (bf_spr (bf_kf fs 16) (bf_ws (fun _ => 0)) (bf_spr (bf_kf fw z) (bf_ws (fun _ => 0)) f1)), aI cI as_ 16 fs, aI cI aN 16 (fun _ => 0)] := hD
          refine lv_iinc (v := nI (i + 1)) (lv' := [(4, .int (nI (i + 1))), (0, .ref h0), (1, .int x), (2, .ref aN), (3, .ref aX)]) hx hb dX1_hash_229 hl (k := 4) rfl (nI_1 i) (by decide) rfl (fun ls hl => ?_)
          refine lv_goto (tgt := 193) hx hb dX1_hash_232 (by decide) ?_
          exact ih2 (i + 1) (by omega) _ l3 r3 H locs ls (by rw [bf_ws_0, hf1]; rfl) (hP.sub [3, 2, 5, 0, 4, 6, 1] rfl) (hD.sub [3, 2, 5, 0, 4, 6, 1] (by decide) rfl) hS (lv_sub hl [1, 2, 3, 4, 0] rfl)
      exact reps (2 ^ bf_cs x) 0 (by omega) _ l1 r1 H locs ls rfl (hP.sub [3, 5, 6, 0, 4, 1, 2] rfl) (hD.sub [3, 5, 6, 0, 4, 1, 2] (by decide) rfl) hS (lv_sub hl [3, 4, 2, 1, 0] rfl)
    | succ k ih =>
      intro i hi f H locs ls hf hP hD hS hl
      refine lv_iload_n hx hb dX1_hash_2 rfl (lv_at hl 2 rfl) ?_
      refine lv_sipush (v := nI 1042) hx hb dX1_hash_3 (by decide) ?_
      refine lv_icmp_ge (tgt := 26) hx hb dX1_hash_6 (by decide) (fun c9 => absurd c9 (nI_ge (by omega) (by omega))) (fun _ => ?_)
      refine lv_aload_n hx hb dX1_hash_9 rfl (lv_at hl 0 rfl) ?_
      refine va_get (D := (dC, dI)) (ci := 1) (v := .ref at_) (C := RX1) (T := TX1) (N := 7) hx hb hts in_X1 hown hK hP 0 rfl rfl 4 (by decide) (hts _ q252) (fun _ h9 => h9) rfl dX1_hash_10 ?_
      refine lv_iload_n hx hb dX1_hash_13 rfl (lv_at hl 2 rfl) ?_
      refine va_gets hx hb zPI hS hown (hts _ q290) (fun _ h => h) dX1_hash_14 ?_
      refine lv_iload_n hx hb dX1_hash_17 rfl (lv_at hl 2 rfl) ?_
      refine cx_sld hx hb xPI lPI nPI hS (i) (rfl) (by omega) (by decide) dX1_hash_18 ?_
      refine cx_iast hx hb hK hP hD hS 4 0 rfl rfl (i) (rfl) (by omega) (by decide) dX1_hash_19 (fun H locs hP hD hS => ?_)
      have hP : va_P (dC, dI) vwCl [(h0, .inr (1, [.ref aw, .int (nI z), .ref as_, .ref ao, .ref at_, .int lf, .int rt])), aI cI aw 72 fw, aI cI as_ 16 fs, aI cI ao 24 fo, aI cI at_ 1042 (upd f i (T i))] H := hP
      have hD : va_D A [(h0, .inr (1, [.ref aw, .int (nI z), .ref as_, .ref ao, .ref at_, .int lf, .int rt])), aI cI aw 72 fw, aI cI as_ 16 fs, aI cI ao 24 fo, aI cI at_ 1042 (upd f i (T i))] := hD
      refine lv_iinc (v := nI (i + 1)) (lv' := [(2, .int (nI (i + 1))), (0, .ref h0), (1, .int x)]) hx hb dX1_hash_20 hl (k := 2) rfl (nI_1 i) (by decide) rfl (fun ls hl => ?_)
      refine lv_goto (tgt := 2) hx hb dX1_hash_23 (by decide) ?_
      exact ih (i + 1) (by omega) _ H locs ls (bf_pin hf) hP hD hS (lv_sub hl [1, 2, 0] rfl)
  exact loop 1042 0 (by omega) ft _ _ ls (fun j => by rw [if_neg (by omega)]) hP hD hS (lv_sub hl [1, 2, 0] rfl)
end
section
/-! STATIC ARRAYS AT THE LAW'S START: what the Statement gives of them -/
set_option maxRecDepth 100000
def pi_v : Cond → Int32
  | .eq _ (.int v) => v
  | _ => 0
/-- the 1042 numbers of the reference's table, read off the Statement -/
def pi_ls : List Int32 := (((flatC narrow_1).drop 1081).take 1042).map pi_v
def pi_T : Nat → Int32 := fun j => pi_ls.getD j 0
def pi_row (C n : String) (q : Int32 × Nat) : Cond := Cond.eq (.elem (.static C n "[I") (.int (Int32.ofNat q.2))) (.int q.1)
theorem pi_len : pi_ls.length = 1042 := by decide +kernel
theorem pi_KP : ((flatC narrow_1).drop 1049).take 18 = ((pi_ls.drop 0).take 18).zipIdx.map (pi_row "BCrypt" "KP") := by decide +kernel
theorem pi_KS0 : ((flatC narrow_1).drop 9).take 256 = ((pi_ls.drop 18).take 256).zipIdx.map (pi_row "BCrypt" "KS0") := by decide +kernel
theorem pi_KS1 : ((flatC narrow_1).drop 269).take 256 = ((pi_ls.drop 274).take 256).zipIdx.map (pi_row "BCrypt" "KS1") := by decide +kernel
theorem pi_KS2 : ((flatC narrow_1).drop 529).take 256 = ((pi_ls.drop 530).take 256).zipIdx.map (pi_row "BCrypt" "KS2") := by decide +kernel
theorem pi_KS3 : ((flatC narrow_1).drop 789).take 256 = ((pi_ls.drop 786).take 256).zipIdx.map (pi_row "BCrypt" "KS3") := by decide +kernel
theorem pi_PI : ((flatC narrow_1).drop 1081).take 1042 = ((pi_ls.drop 0).take 1042).zipIdx.map (pi_row "CryptDeskModel" "PI") := by decide +kernel
theorem pi_MG : ((flatC narrow_1).drop 1071).take 6 = ([bf_Mg 0, bf_Mg 1, bf_Mg 2, bf_Mg 3, bf_Mg 4, bf_Mg 5]).zipIdx.map (pi_row "BCrypt" "MAGIC_STRING") := by decide +kernel
/-- a row of a run of the Statement's conditions -/
theorem pi_mem {F : List Cond} {xs : List Int32} {C n : String} {b N : Nat} (h : (F.drop b).take N = xs.zipIdx.map (pi_row C n)) {j : Nat} {v : Int32} (hv : xs[j]? = some v) : pi_row C n (v, j) ∈ F := by
  have h1 : (xs.zipIdx.map (pi_row C n))[j]? = some (pi_row C n (v, j)) := by
    rw [List.getElem?_map, List.getElem?_zipIdx, hv]
    simp
  rw [← h] at h1
  exact List.mem_of_mem_drop (List.mem_of_mem_take (List.mem_of_getElem? h1))
theorem pi_at {o N j : Nat} (hj : j < N) (ho : o + N ≤ 1042) : ((pi_ls.drop o).take N)[j]? = some (pi_T (o + j)) := by
  have hl : o + j < pi_ls.length := by rw [pi_len]; omega
  rw [List.getElem?_take, if_pos hj, List.getElem?_drop]
  unfold pi_T
  rw [List.getD_eq_getElem?_getD, List.getElem?_eq_getElem hl]
  rfl
theorem st_len {args : Array Value} {first s : State} {o : Option Outcome} {idx : List Nat} {t : Term} {v : Value} (h : (Term.length t).eval args first o idx s = some v) : ∃ a cell, t.eval args first o idx s = some (.ref a) ∧ s.arrayAt? a = some cell ∧ cell.slots.size < 2 ^ 31 ∧ v = .int cell.slots.size.toInt32 := by
  simp only [Term.eval, Option.bind_eq_bind] at h
  cases ht : t.eval args first o idx s with
  | none => simp [ht] at h
  | some x =>
    cases x <;> simp [ht] at h
    case ref a =>
      obtain ⟨cell, hcell, h⟩ := Option.bind_eq_some_iff.mp h
      by_cases hn : cell.slots.size < 2147483648
      · rw [if_pos hn] at h
        cases h
        exact ⟨a, cell, rfl, hcell, hn, rfl⟩
      · rw [if_neg hn] at h
        cases h
/-- a static array, out of the Statement's conditions on it -/
theorem st_of {args : Array Value} {s : State} {C n : String} {N : Nat} {f : Nat → Int32} (hl : (Cond.laysStatic C n "[I").before args s = true) (hini : (Cond.initialized C).before args s = true) (harr : (Cond.arrayOf (.static C n "[I") .int).before args s = true) (hlen : (Cond.eq (.length (.static C n "[I")) (.int (Int32.ofNat N))).before args s = true) (hel : ∀ j : Nat, j < N → (pi_row C n (f j, j)).before args s = true) (hN : N < 2 ^ 31) : cx_St C n N f (fun q : Nat => s.heap.size ≤ q) s s.heap := by
  have hA : ∀ a : Nat, a < s.heap.size → ¬ (fun q : Nat => s.heap.size ≤ q) a := fun a ha => Nat.not_le.mpr ha
  have hle := va_eqt hlen
  obtain ⟨t, ht, cell, h1, h2, h3, h4, h5, h6, h7⟩ := va_Tof (f := fun j => .int (f j)) (A := fun q : Nat => s.heap.size ≤ q) hN harr hle (fun j hj => va_eqt (hel j hj)) hA
  obtain ⟨a, cell2, g1, g2, g3, g4⟩ := st_len hle
  cases ht.symm.trans g1
  obtain ⟨g5, -⟩ := State.arrayAt?_spec g2
  cases h1.symm.trans g5
  have hsz : cell.slots.size = N := (nI_eq g3 hN).mp h5
  exact ⟨t, va_Zref hl hini ht hA, ⟨cell, h1, h2, h3, hsz, fun j hj => h6 j hj⟩, (Array.getElem?_eq_some_iff.mp h1).1, h7⟩
section ST
variable {s : State} {b : Addr}
/-- any condition of narrow_1 -/
theorem st_nw (hgv : (Jvm.Cond.and given_1 narrow_1).before #[Value.ref b] s = true) : ∀ w ∈ flatC narrow_1, w.before #[Value.ref b] s = true := fun w h => flat_of_before _ hgv w (show w ∈ flatC given_1 ++ flatC narrow_1 from List.mem_append_right _ h)
theorem st_pi (hgv : (Jvm.Cond.and given_1 narrow_1).before #[Value.ref b] s = true) (hts : ∀ w ∈ lw_tbl, w.before #[Value.ref b] s = true) : cx_Pi pi_T (fun q : Nat => s.heap.size ≤ q) s :=
  st_of (hts _ q291) (hts _ (lw_all_tbl q12)) (st_nw hgv _ (List.mem_of_getElem? (i := 1078) (by decide +kernel))) (st_nw hgv _ (List.mem_of_getElem? (i := 1080) (by decide +kernel))) (fun j hj => st_nw hgv _ (pi_mem pi_PI (by have := pi_at (o := 0) hj (by decide); rwa [Nat.zero_add] at this))) (by decide)
theorem st_bc (hgv : (Jvm.Cond.and given_1 narrow_1).before #[Value.ref b] s = true) (hts : ∀ w ∈ lw_tbl, w.before #[Value.ref b] s = true) : cx_Bc pi_T bf_Mg (fun q : Nat => s.heap.size ≤ q) s := by
  refine ⟨?_, ?_, ?_, ?_, ?_, ?_⟩
  · exact st_of (hts _ q197) (hts _ (lw_all_tbl q13)) (st_nw hgv _ (List.mem_of_getElem? (i := 1046) (by decide +kernel))) (st_nw hgv _ (List.mem_of_getElem? (i := 1048) (by decide +kernel))) (fun j hj => st_nw hgv _ (pi_mem pi_KP (by have := pi_at (o := 0) hj (by decide); rwa [Nat.zero_add] at this))) (by decide)
  · exact st_of (hts _ q188) (hts _ (lw_all_tbl q13)) (st_nw hgv _ (List.mem_of_getElem? (i := 6) (by decide +kernel))) (st_nw hgv _ (List.mem_of_getElem? (i := 8) (by decide +kernel))) (fun j hj => st_nw hgv _ (pi_mem pi_KS0 (pi_at hj (by decide)))) (by decide)
  · exact st_of (hts _ q191) (hts _ (lw_all_tbl q13)) (st_nw hgv _ (List.mem_of_getElem? (i := 266) (by decide +kernel))) (st_nw hgv _ (List.mem_of_getElem? (i := 268) (by decide +kernel))) (fun j hj => st_nw hgv _ (pi_mem pi_KS1 (pi_at hj (by decide)))) (by decide)
  · exact st_of (hts _ q193) (hts _ (lw_all_tbl q13)) (st_nw hgv _ (List.mem_of_getElem? (i := 526) (by decide +kernel))) (st_nw hgv _ (List.mem_of_getElem? (i := 528) (by decide +kernel))) (fun j hj => st_nw hgv _ (pi_mem pi_KS2 (pi_at hj (by decide)))) (by decide)
  · exact st_of (hts _ q195) (hts _ (lw_all_tbl q13)) (st_nw hgv _ (List.mem_of_getElem? (i := 786) (by decide +kernel))) (st_nw hgv _ (List.mem_of_getElem? (i := 788) (by decide +kernel))) (fun j hj => st_nw hgv _ (pi_mem pi_KS3 (pi_at hj (by decide)))) (by decide)
  · refine st_of (hts _ q231) (hts _ (lw_all_tbl q13)) (st_nw hgv _ (List.mem_of_getElem? (i := 1068) (by decide +kernel))) (st_nw hgv _ (List.mem_of_getElem? (i := 1070) (by decide +kernel))) (fun j hj => st_nw hgv _ (pi_mem pi_MG ?_)) (by decide)
    rcases (show j = 0 ∨ j = 1 ∨ j = 2 ∨ j = 3 ∨ j = 4 ∨ j = 5 by omega) with rfl | rfl | rfl | rfl | rfl | rfl <;> rfl
end ST
end
section
set_option maxRecDepth 100000
/-! THE CLAIM OUT OF ONE WALK OF THE LAW'S BODY. Your part is whole_start (and what it stands on); all else here is the same for every law, but numbers. -/
def R_law : String := "CryptDeskLaw"
def lw_P (b : Addr) (xs : List Int32) (args : Array Value) (s : State) : Prop := args = #[.ref b] ∧ s.IntsAt b xs ∧ xs.length ≤ 96 ∧ (Jvm.Cond.and given_1 narrow_1).before args s = true
def lw_Q (_ : Array Value) (s : State) (o : Outcome) (t : State) : Prop := o = .returned (some (.int 1)) ∧ Framed s o t [] 600032 7301962
def lw_Z (below : List Frame) (a : Array Value) (s : State) : State → Prop := fun t => ∃ o, t.status = .running ∧ Ended t below o ∧ lw_Q a s o t
/-- the law's own end, with 1 on the stack, nothing written that was there before, its room as the claim has it -/
theorem lw_ret {p : Program} {l : Launch} {e : Env} {s : State} {m : MethodId} {below : List Frame} {meth : Method} {c : Code} {b : Nat} (hx : p.tables.exec = Jvm.exec) (hb : c.code = code) (hr : meth.sig.returnType = ret) (hlocks : meth.locks = false) {pc : Nat} {H : Heap} {ls : Array Slot} (hdg : decode code pc = .ok (.ireturn, 1)) : W p l e room_1 s m #[Value.ref b] below meth c H [] 600032 7301962 (lw_Z below #[Value.ref b] s) (F0 m pc ls [.int 1]) := by
  intro T hT X
  obtain ⟨fs, hret, hrun, hended, hW, hframe⟩ := X.leave (v := some (.int 1)) (hlocks := hlocks) (fun h => by rw [hr] at h; cases h)
  have hmeth' : T.vm.method? m = some meth := X.method'
  refine ⟨T.setFrames fs, ?_, .returned (some (.int 1)), hrun, hended, rfl, ⟨_, rfl⟩, hW, hframe⟩
  jvm_step X.here [X.here.top, hx, hb, hdg, hmeth', hr, ret, narrow_b1]
  (try refine ⟨rfl, ?_⟩); (try refine ⟨rfl, ?_⟩)
  first | (intro acts; rw [hret _ acts rfl rfl rfl]) | rw [hret _ _ rfl rfl rfl]
  exact Steps.refl _
/-- what holds at the law's entry: the machine, the code, the tables' words (any of lw_tbl by 'hts w (by decide +kernel)'), the script of L ints xs at the cell b, what the Statement gives of the start (any of its parts by flat_of_before) -/
def lw_At (p : Program) (s : State) (m : MethodId) (meth : Method) (c : Code) (b L : Nat) (xs : Nat → Int32) : Prop :=
  p.tables.exec = Jvm.exec ∧ c.code = code ∧ meth.sig.returnType = ret ∧ c.maxLocals = 4 ∧ s.vm.findClass R_law = some m.cls ∧ (∀ w ∈ lw_tbl, w.before #[Value.ref b] s = true) ∧ va_X b L xs s s.heap ∧ b < s.heap.size ∧ meth.locks = false ∧ (Jvm.Cond.and given_1 narrow_1).before #[Value.ref b] s = true
end
section
/-! THE LAW -/
set_option maxRecDepth 100000
theorem law_gt {L i : Nat} (hL : L ≤ 96) (hi : i ≤ 96) (h : L < i + 6) : nI L - nI 6 < nI i := by
  rw [Int32.lt_iff_toInt_lt, pk_sub_toInt (by omega) (by omega), nI_toInt (by omega)]
  omega
theorem law_ngt {L i : Nat} (hL : L ≤ 96) (h : i + 6 ≤ L) : ¬ nI L - nI 6 < nI i := by
  rw [Int32.lt_iff_toInt_lt, pk_sub_toInt (by omega) (by omega), nI_toInt (by omega)]
  omega
/-- an array class that the tables know -/
theorem law_arr {s : State} {args : Array Value} {ty : FieldType} (h : (Cond.arrayClass ty).before args s = true) (hr : refKind ty = false) : ∃ cA : ClassId, ArrOfT s cA ty ∧ va_RA s cA ty := by
  obtain ⟨cA, kA, comp, h1, h2, h3⟩ := Cond.arrayClass_spec h
  refine ⟨cA, fun n z => ⟨fun k h => (by cases h), kA, h2, comp, h3⟩, ?_⟩
  cases ty with
  | object C => simp [refKind] at hr
  | _ => exact h1
/-- both sides' answers from equal bytes -/
theorem law_hash {fw fs gw gs u v T : Nat → Int32} {z r : Nat} (hz : 0 < z) (hz2 : z ≤ 72) (hw : bf_By 72 fw gw) (hs : bf_By 16 fs gs) (hu : ∀ j, j < 24 → u j &&& 255 = bf_by (bf_out (bf_fin (fun j => fw j &&& 255) z (fun j => fs j &&& 255) r T) bf_Mg (j / 4)) (j % 4)) (hv : ∀ j, j < 24 → v j = bf_by (bf_out (bf_fin gw z gs r T) bf_Mg (j / 4)) (j % 4)) : bf_By 24 u v := by
  intro j hj
  rw [hu j hj, hv j hj, bf_fin_c (g := gw) (g' := fun j => fw j &&& 255) (h := gs) (h' := fun j => fs j &&& 255) hz (fun q hq => hw q (by omega)) (fun q hq => hs q hq)]
set_option maxHeartbeats 4000000 in
theorem whole_start {p : Program} {e : Env} {s : State} {m : MethodId} {below : List Frame} {meth : Method} {c : Code} (l : Launch) (hflags : l.flags = flags0) {b L : Nat} {xs : Nat → Int32} (hL : L ≤ 96) (C0 : lw_At p s m meth c b L xs) : W p l e room_1 s m #[Value.ref b] below meth c s.heap [] 0 0 (lw_Z below #[Value.ref b] s) (entryFrame m ([Value.ref b] : List Value).toArray 4) := by
  obtain ⟨hx, hb, hr, hml, hown, hts0, hX, hbl, hlocks, hgv⟩ := id C0
  have hts : ∀ w ∈ lw_all, w.before #[Value.ref b] s = true := fun w h => hts0 w (lw_all_tbl h)
  have hRc : room_1.cells = 600032 := rfl
  have hRs : room_1.slots = 7301962 := rfl
  have hPi := st_pi hgv hts0
  have hBc := st_bc hgv hts0
  obtain ⟨A, hAe⟩ : ∃ A : Nat → Prop, A = fun q : Nat => s.heap.size ≤ q := ⟨_, rfl⟩
  rw [← hAe] at hPi hBc
  have hA : ∀ q : Nat, s.heap.size ≤ q → A q := fun q h => by rw [hAe]; exact h
  have hbA : ¬ A b := by rw [hAe]; exact Nat.not_le.mpr hbl
  obtain ⟨c0_, iS0, hKn0⟩ := u_known (C := RX0) (T := TX0) (N := 4) (n := 4) hts0 (fun w h => lw_all_tbl (in_X0 w h)) (hts _ q25)
  obtain ⟨c1_, iS1, hKn1⟩ := u_known (C := RX1) (T := TX1) (N := 7) (n := 7) hts0 (fun w h => lw_all_tbl (in_X1 w h)) (hts _ q243)
  obtain ⟨c2_, iS2, hKn2⟩ := u_known (C := RX2) (T := TX2) (N := 2) (n := 2) hts0 (fun w h => lw_all_tbl (in_X2 w h)) (hts _ q145)
  obtain ⟨dC, dI, hKc⟩ : ∃ (dC : Nat → ClassId) (dI : Nat → Nat → Nat), ∀ (k : Nat) (q : vw_C), vwCl[k]? = some q → u_Kn s q.1 q.2.1 q.2.2 (dC k) (dI k) := by
    refine ⟨fun k => if k = 0 then c0_ else if k = 1 then c1_ else c2_, fun k => if k = 0 then iS0 else if k = 1 then iS1 else iS2, ?_⟩
    intro k q hq
    match k, hq with
    | 0, hq => cases hq; exact hKn0
    | 1, hq => cases hq; exact hKn1
    | 2, hq => cases hq; exact hKn2
    | k + 3, hq => simp [vwCl] at hq
  obtain ⟨cI, hcI⟩ := law_arr (hts _ q157) rfl
  obtain ⟨cB, hcB⟩ := law_arr (hts _ q45) rfl
  have hK : va_K (dC, dI) vwCl (tyL cI cB) s := ⟨hKc, fun k q h => by
    match k, h with
    | 0, h => cases h; exact hcI
    | 1, h => cases h; exact hcB
    | k + 2, h => simp [tyL] at h⟩
  have hS : va_S A s.heap s.heap [] := va_S.rf
  have hP : va_P (dC, dI) vwCl [] s.heap := fun k q h => by simp at h
  have hD : va_D A [] := ⟨fun i j p q h => by simp at h, fun k q h => by simp at h⟩
  have hl := lv_entry ([.ref b]) (n := 4) (Nat.le_of_ble_eq_true rfl)
  rw [lg_entry_eq]
  generalize (lg_sl ([.ref b]) ++ List.replicate (4 - (lg_sl ([.ref b])).length) Slot.unset).toArray = ls at hl ⊢
  have hl : lv_has ls 4 [(0, .ref b)] := hl
  refine cx_Q (fun Q hQe => ?_)
  refine va_new (ci := 0) (fs := [.null, .int 0, .null, .null]) (C := RX0) (T := TX0) (N := 4) hx hb hts in_X0 tyX0 tyX0_ok hown (hts _ q24) (hts _ q25) (hts _ q11) hK hP hD hS hA rfl (fun j hj => by rcases (show j = 0 ∨ j = 1 ∨ j = 2 ∨ j = 3 by omega) with rfl | rfl | rfl | rfl <;> rfl) (by decide) (by decide) dL_law_0 (fun dx H hP hD hS => ?_)
  have hP : va_P (dC, dI) vwCl [(dx, .inr (0, [.null, .int 0, .null, .null]))] H := hP
  have hD : va_D A [(dx, .inr (0, [.null, .int 0, .null, .null]))] := hD
  refine lv_dup hx hb dL_law_3 rfl ?_
  refine cx_callv (wr := []) (va_runI (As := []) (rest := [.ref dx]) ⟨hx, hb, hml, hown, hts⟩ (met_dinit l dC dI cI cB dx H.size) (cwI 0 hts (lw_meth q28) rfl rfl rfl (hts _ q11) (hts _ q26) (hts _ q27) rfl (by decide +kernel) ⟨Nat.le_of_ble_eq_true rfl, Nat.le_of_ble_eq_true rfl⟩) (cx_preS hP hD hK [0] rfl (by decide) rfl (cx_No_b) (fun _ _ _ => trivial)) rfl rfl hl.1 rfl (lv_room (Nat.le_of_ble_eq_true rfl)) dL_law_4 ⟨Nat.le_of_ble_eq_true rfl, Nat.le_of_ble_eq_true rfl⟩) hP hD hS hA [0] [] rfl rfl (by decide) (by decide) (fun u0 H locs _ hP hD hS => ?_)
  obtain ⟨dw, ds, dO⟩ := u0
  have hP : va_P (dC, dI) vwCl [(dx, .inr (0, [.ref dw, .int (nI 1), .ref ds, .ref dO])), aI cB dw 72 (fun _ => 0), aI cB ds 16 (fun _ => 0), aI cB dO 24 (fun _ => 0)] H := hP
  have hD : va_D A [(dx, .inr (0, [.ref dw, .int (nI 1), .ref ds, .ref dO])), aI cB dw 72 (fun _ => 0), aI cB ds 16 (fun _ => 0), aI cB dO 24 (fun _ => 0)] := hD
  refine lv_astore_n (lv' := [(1, .ref dx), (0, .ref b)]) hx hb dL_law_7 rfl hl (by decide) rfl (fun ls hl => ?_)
  refine va_new (ci := 1) (fs := [.null, .int 0, .null, .null, .null, .int 0, .int 0]) (C := RX1) (T := TX1) (N := 7) hx hb hts in_X1 tyX1 tyX1_ok hown (hts _ q242) (hts _ q243) (hts _ q12) hK hP hD hS hA rfl (fun j hj => by rcases (show j = 0 ∨ j = 1 ∨ j = 2 ∨ j = 3 ∨ j = 4 ∨ j = 5 ∨ j = 6 by omega) with rfl | rfl | rfl | rfl | rfl | rfl | rfl <;> rfl) (by decide) (by decide) dL_law_8 (fun mx H hP hD hS => ?_)
  have hP : va_P (dC, dI) vwCl [(dx, .inr (0, [.ref dw, .int (nI 1), .ref ds, .ref dO])), aI cB dw 72 (fun _ => 0), aI cB ds 16 (fun _ => 0), aI cB dO 24 (fun _ => 0), (mx, .inr (1, [.null, .int 0, .null, .null, .null, .int 0, .int 0]))] H := hP
  have hD : va_D A [(dx, .inr (0, [.ref dw, .int (nI 1), .ref ds, .ref dO])), aI cB dw 72 (fun _ => 0), aI cB ds 16 (fun _ => 0), aI cB dO 24 (fun _ => 0), (mx, .inr (1, [.null, .int 0, .null, .null, .null, .int 0, .int 0]))] := hD
  refine lv_dup hx hb dL_law_11 rfl ?_
  refine cx_callv (wr := [(dx, .inr (0, [.ref dw, .int (nI 1), .ref ds, .ref dO])), aI cB dw 72 (fun _ => 0), aI cB ds 16 (fun _ => 0), aI cB dO 24 (fun _ => 0)]) (va_runI (As := []) (rest := [.ref mx]) ⟨hx, hb, hml, hown, hts⟩ (met_minit l dC dI cI cB mx H.size) (cwI 0 hts (lw_meth q246) rfl rfl rfl (hts _ q12) (hts _ q244) (hts _ q245) rfl (by decide +kernel) ⟨Nat.le_of_ble_eq_true rfl, Nat.le_of_ble_eq_true rfl⟩) (cx_preS hP hD hK [4] rfl (by decide) rfl (cx_No_b) (fun _ _ _ => trivial)) rfl rfl hl.1 rfl (lv_room (Nat.le_of_ble_eq_true rfl)) dL_law_12 ⟨Nat.le_of_ble_eq_true rfl, Nat.le_of_ble_eq_true rfl⟩) hP hD hS hA [4] [0, 1, 2, 3] rfl rfl (by decide) (by decide) (fun u0 H locs _ hP hD hS => ?_)
  obtain ⟨mw, ms, mo, mt⟩ := u0
  have hP : va_P (dC, dI) vwCl [(dx, .inr (0, [.ref dw, .int (nI 1), .ref ds, .ref dO])), aI cB dw 72 (fun _ => 0), aI cB ds 16 (fun _ => 0), aI cB dO 24 (fun _ => 0), (mx, .inr (1, [.ref mw, .int (nI 1), .ref ms, .ref mo, .ref mt, .int 0, .int 0])), aI cI mw 72 (fun _ => 0), aI cI ms 16 (fun _ => 0), aI cI mo 24 (fun _ => 0), aI cI mt 1042 (fun _ => 0)] H := hP
  have hD : va_D A [(dx, .inr (0, [.ref dw, .int (nI 1), .ref ds, .ref dO])), aI cB dw 72 (fun _ => 0), aI cB ds 16 (fun _ => 0), aI cB dO 24 (fun _ => 0), (mx, .inr (1, [.ref mw, .int (nI 1), .ref ms, .ref mo, .ref mt, .int 0, .int 0])), aI cI mw 72 (fun _ => 0), aI cI ms 16 (fun _ => 0), aI cI mo 24 (fun _ => 0), aI cI mt 1042 (fun _ => 0)] := hD
  refine lv_astore_n (lv' := [(2, .ref mx), (1, .ref dx), (0, .ref b)]) hx hb dL_law_15 rfl hl (by decide) rfl (fun ls hl => ?_)
  refine lv_iconst (v := nI (6 * 0)) hx hb dL_law_16 (by decide) ?_
  refine lv_istore_n (lv' := [(3, .int (nI (6 * 0))), (2, .ref mx), (1, .ref dx), (0, .ref b)]) hx hb dL_law_17 rfl hl (by decide) rfl (fun ls hl => ?_)
  refine W.widen (k := 9 + 10 * 0) (n := 1277 + 1206 * 0) (by decide) (by decide) ?_
  have loop : ∀ (n k : Nat), k + n = 17 → 6 * k ≤ L → ∀ (z dO : Nat) (lf rt : Int32) (fw fs fo gw gs go gt : Nat → Int32) (H : Heap) (locs : List Loc) (ls : Array Slot), 0 < z → z ≤ 72 → bf_By 72 fw gw → bf_By 16 fs gs → bf_By 24 fo go → va_P (dC, dI) vwCl [(dx, .inr (0, [.ref dw, .int (nI z), .ref ds, .ref dO])), aI cB dw 72 fw, aI cB ds 16 fs, aI cB dO 24 fo, (mx, .inr (1, [.ref mw, .int (nI z), .ref ms, .ref mo, .ref mt, .int lf, .int rt])), aI cI mw 72 gw, aI cI ms 16 gs, aI cI mo 24 go, aI cI mt 1042 gt] H → va_D A [(dx, .inr (0, [.ref dw, .int (nI z), .ref ds, .ref dO])), aI cB dw 72 fw, aI cB ds 16 fs, aI cB dO 24 fo, (mx, .inr (1, [.ref mw, .int (nI z), .ref ms, .ref mo, .ref mt, .int lf, .int rt])), aI cI mw 72 gw, aI cI ms 16 gs, aI cI mo 24 go, aI cI mt 1042 gt] → va_S A s.heap H locs → lv_has ls 4 [(0, .ref b), (1, .ref dx), (2, .ref mx), (3, .int (nI (6 * k)))] → W p l e room_1 s m #[Value.ref b] below meth c H locs (9 + 10 * k) (1277 + 1206 * k) Q (F0 m 18 ls []) := by
    intro n
    induction n with
    | zero =>
      intro k hk hkL
      exact absurd hkL (by omega)
    | succ n ih =>
      intro k hk hkL z dO lf rt fw fs fo gw gs go gt H locs ls hz hz2 hBw hBs hBo hP hD hS hl
      refine lv_iload_n hx hb dL_law_18 rfl (lv_at hl 3 rfl) ?_
      refine lv_aload_n hx hb dL_law_19 rfl (lv_at hl 0 rfl) ?_
      refine va_slen hx hb hX hbl hbA hS dL_law_20 ?_
      refine lv_bipush (v := nI 6) hx hb dL_law_21 (by decide) ?_
      refine lv_isub hx hb dL_law_23 ?_
      refine lv_icmp_gt (tgt := 241) hx hb dL_law_24 (by decide) (fun c9 => ?_) (fun c9 => ?_)
      · skip
        refine lv_iconst (v := 1) hx hb dL_law_241 (by decide) ?_
        subst hQe
        subst hAe
        refine va_forget hS.2.2 ?_
        refine W.widen (k := 600032) (n := 7301962) (by omega) (by omega) ?_
        exact lw_ret hx hb hr hlocks dL_law_242
      · have hL6 : 6 * k + 6 ≤ L := Nat.not_lt.mp (fun q => c9 (law_gt hL (by omega) q))
        refine lv_aload_n hx hb dL_law_27 rfl (lv_at hl 0 rfl) ?_
        refine lv_iload_n hx hb dL_law_28 rfl (lv_at hl 3 rfl) ?_
        refine cx_sld hx hb hX hbl hbA hS ((6 * k)) (rfl) (by omega) (by omega) dL_law_29 ?_
        refine lv_bipush (v := 7) hx hb dL_law_30 (by decide) ?_
        refine lv_iand hx hb dL_law_32 ?_
        obtain ⟨j, hj8, ej⟩ := pk_andE (xs (6 * k)) (m := 7) 3 (by decide)
        refine cx_top (nI j) (ej) ?_
        have hj8 : j < 8 := hj8
        clear ej
        rcases (show j = 0 ∨ j = 1 ∨ j = 2 ∨ j = 3 ∨ j = 4 ∨ j = 5 ∨ j = 6 ∨ j = 7 by omega) with rfl | rfl | rfl | rfl | rfl | rfl | rfl | rfl
        · skip
          refine lv_tableIn (off := 35) (tgt := 68) hx hb dL_law_33 (by decide) (by decide) rfl (by decide) ?_
          refine lv_aload_n hx hb dL_law_68 rfl (lv_at hl 1 rfl) ?_
          refine lv_aload_n hx hb dL_law_69 rfl (lv_at hl 0 rfl) ?_
          refine lv_iload_n hx hb dL_law_70 rfl (lv_at hl 3 rfl) ?_
          refine lv_iconst (v := 1) hx hb dL_law_71 (by decide) ?_
          refine lv_iadd hx hb dL_law_72 ?_
          refine cx_top (nI (6 * k + 1)) (nI_1 (6 * k)) ?_
          refine cx_sld hx hb hX hbl hbA hS ((6 * k + 1)) (rfl) (by omega) (by omega) dL_law_73 ?_
          refine lv_aload_n hx hb dL_law_74 rfl (lv_at hl 0 rfl) ?_
          refine lv_iload_n hx hb dL_law_75 rfl (lv_at hl 3 rfl) ?_
          refine lv_iconst (v := 2) hx hb dL_law_76 (by decide) ?_
          refine lv_iadd hx hb dL_law_77 ?_
          refine cx_top (nI (6 * k + 2)) (nI_add (6 * k) 2) ?_
          refine cx_sld hx hb hX hbl hbA hS ((6 * k + 2)) (rfl) (by omega) (by omega) dL_law_78 ?_
          refine lv_aload_n hx hb dL_law_79 rfl (lv_at hl 0 rfl) ?_
          refine lv_iload_n hx hb dL_law_80 rfl (lv_at hl 3 rfl) ?_
          refine lv_iconst (v := 3) hx hb dL_law_81 (by decide) ?_
          refine lv_iadd hx hb dL_law_82 ?_
          refine cx_top (nI (6 * k + 3)) (nI_add (6 * k) 3) ?_
          refine cx_sld hx hb hX hbl hbA hS ((6 * k + 3)) (rfl) (by omega) (by omega) dL_law_83 ?_
          refine lv_aload_n hx hb dL_law_84 rfl (lv_at hl 0 rfl) ?_
          refine lv_iload_n hx hb dL_law_85 rfl (lv_at hl 3 rfl) ?_
          refine lv_iconst (v := 4) hx hb dL_law_86 (by decide) ?_
          refine lv_iadd hx hb dL_law_87 ?_
          refine cx_top (nI (6 * k + 4)) (nI_add (6 * k) 4) ?_
          refine cx_sld hx hb hX hbl hbA hS ((6 * k + 4)) (rfl) (by omega) (by omega) dL_law_88 ?_
          refine cx_callv (wr := [(mx, .inr (1, [.ref mw, .int (nI z), .ref ms, .ref mo, .ref mt, .int lf, .int rt])), aI cI mw 72 gw, aI cI ms 16 gs, aI cI mo 24 go, aI cI mt 1042 gt]) (va_runV (As := [.int (xs (6 * k + 1)), .int (xs (6 * k + 2)), .int (xs (6 * k + 3)), .int (xs (6 * k + 4))]) (rest := []) ⟨hx, hb, hml, hown, hts⟩ (met_dword l dC dI cI cB dx dw ds dO z fw fs fo (xs (6 * k + 1)) (xs (6 * k + 2)) (xs (6 * k + 3)) (xs (6 * k + 4)) H.size) (cwV 4 hts (lw_V q46 q47 q48 q11 q49) rfl rfl rfl (by decide +kernel) ⟨Nat.le_of_ble_eq_true rfl, Nat.le_of_ble_eq_true rfl⟩) (cx_preV (ci := 0) (q0 := 0) rfl rfl hP hD hK [0, 1, 2, 3] rfl (by decide) rfl (cx_No_b) (fun _ _ _ => trivial)) rfl rfl hl.1 rfl (lv_room (Nat.le_of_ble_eq_true rfl)) dL_law_89 ⟨by omega, by omega⟩) hP hD hS hA [0, 1, 2, 3] [4, 5, 6, 7, 8] rfl rfl (by decide) (by decide) (fun u1 H locs hu1 hP hD hS => ?_)
          have hP : va_P (dC, dI) vwCl [(mx, .inr (1, [.ref mw, .int (nI z), .ref ms, .ref mo, .ref mt, .int lf, .int rt])), aI cI mw 72 gw, aI cI ms 16 gs, aI cI mo 24 go, aI cI mt 1042 gt, (dx, .inr (0, [.ref dw, .int (nI z), .ref ds, .ref dO])), aI cB dw 72 u1, aI cB ds 16 fs, aI cB dO 24 fo] H := hP
          have hD : va_D A [(mx, .inr (1, [.ref mw, .int (nI z), .ref ms, .ref mo, .ref mt, .int lf, .int rt])), aI cI mw 72 gw, aI cI ms 16 gs, aI cI mo 24 go, aI cI mt 1042 gt, (dx, .inr (0, [.ref dw, .int (nI z), .ref ds, .ref dO])), aI cB dw 72 u1, aI cB ds 16 fs, aI cB dO 24 fo] := hD
          refine lv_aload_n hx hb dL_law_92 rfl (lv_at hl 2 rfl) ?_
          refine lv_aload_n hx hb dL_law_93 rfl (lv_at hl 0 rfl) ?_
          refine lv_iload_n hx hb dL_law_94 rfl (lv_at hl 3 rfl) ?_
          refine lv_iconst (v := 1) hx hb dL_law_95 (by decide) ?_
          refine lv_iadd hx hb dL_law_96 ?_
          refine cx_top (nI (6 * k + 1)) (nI_1 (6 * k)) ?_
          refine cx_sld hx hb hX hbl hbA hS ((6 * k + 1)) (rfl) (by omega) (by omega) dL_law_97 ?_
          refine lv_aload_n hx hb dL_law_98 rfl (lv_at hl 0 rfl) ?_
          refine lv_iload_n hx hb dL_law_99 rfl (lv_at hl 3 rfl) ?_
          refine lv_iconst (v := 2) hx hb dL_law_100 (by decide) ?_
          refine lv_iadd hx hb dL_law_101 ?_
          refine cx_top (nI (6 * k + 2)) (nI_add (6 * k) 2) ?_
          refine cx_sld hx hb hX hbl hbA hS ((6 * k + 2)) (rfl) (by omega) (by omega) dL_law_102 ?_
          refine lv_aload_n hx hb dL_law_103 rfl (lv_at hl 0 rfl) ?_
          refine lv_iload_n hx hb dL_law_104 rfl (lv_at hl 3 rfl) ?_
          refine lv_iconst (v := 3) hx hb dL_law_105 (by decide) ?_
          refine lv_iadd hx hb dL_law_106 ?_
          refine cx_top (nI (6 * k + 3)) (nI_add (6 * k) 3) ?_
          refine cx_sld hx hb hX hbl hbA hS ((6 * k + 3)) (rfl) (by omega) (by omega) dL_law_107 ?_
          refine lv_aload_n hx hb dL_law_108 rfl (lv_at hl 0 rfl) ?_
          refine lv_iload_n hx hb dL_law_109 rfl (lv_at hl 3 rfl) ?_
          refine lv_iconst (v := 4) hx hb dL_law_110 (by decide) ?_
          refine lv_iadd hx hb dL_law_111 ?_
          refine cx_top (nI (6 * k + 4)) (nI_add (6 * k) 4) ?_
          refine cx_sld hx hb hX hbl hbA hS ((6 * k + 4)) (rfl) (by omega) (by omega) dL_law_112 ?_
          refine cx_callv (wr := [(dx, .inr (0, [.ref dw, .int (nI z), .ref ds, .ref dO])), aI cB dw 72 u1, aI cB ds 16 fs, aI cB dO 24 fo]) (va_runV (As := [.int (xs (6 * k + 1)), .int (xs (6 * k + 2)), .int (xs (6 * k + 3)), .int (xs (6 * k + 4))]) (rest := []) ⟨hx, hb, hml, hown, hts⟩ (met_mword l dC dI cI cB mx mw ms mo mt z lf rt gw gs go gt (xs (6 * k + 1)) (xs (6 * k + 2)) (xs (6 * k + 3)) (xs (6 * k + 4)) H.size) (cwV 4 hts (lw_V q270 q271 q272 q12 q273) rfl rfl rfl (by decide +kernel) ⟨Nat.le_of_ble_eq_true rfl, Nat.le_of_ble_eq_true rfl⟩) (cx_preV (ci := 1) (q0 := 0) rfl rfl hP hD hK [0, 1, 2, 3, 4] rfl (by decide) rfl (cx_No_b) (fun _ _ _ => trivial)) rfl rfl hl.1 rfl (lv_room (Nat.le_of_ble_eq_true rfl)) dL_law_113 ⟨by omega, by omega⟩) hP hD hS hA [0, 1, 2, 3, 4] [5, 6, 7, 8] rfl rfl (by decide) (by decide) (fun u2 H locs hu2 hP hD hS => ?_)
          have hP : va_P (dC, dI) vwCl [(dx, .inr (0, [.ref dw, .int (nI z), .ref ds, .ref dO])), aI cB dw 72 u1, aI cB ds 16 fs, aI cB dO 24 fo, (mx, .inr (1, [.ref mw, .int (nI z), .ref ms, .ref mo, .ref mt, .int lf, .int rt])), aI cI mw 72 u2, aI cI ms 16 gs, aI cI mo 24 go, aI cI mt 1042 gt] H := hP
          have hD : va_D A [(dx, .inr (0, [.ref dw, .int (nI z), .ref ds, .ref dO])), aI cB dw 72 u1, aI cB ds 16 fs, aI cB dO 24 fo, (mx, .inr (1, [.ref mw, .int (nI z), .ref ms, .ref mo, .ref mt, .int lf, .int rt])), aI cI mw 72 u2, aI cI ms 16 gs, aI cI mo 24 go, aI cI mt 1042 gt] := hD
          refine lv_goto (tgt := 235) hx hb dL_law_116 (by decide) ?_
          refine lv_iinc (v := nI (6 * (k + 1))) (lv' := [(3, .int (nI (6 * (k + 1)))), (0, .ref b), (1, .ref dx), (2, .ref mx)]) hx hb dL_law_235 hl (k := 3) rfl (nI_add (6 * k) 6) (by decide) rfl (fun ls hl => ?_)
          refine lv_goto (tgt := 18) hx hb dL_law_238 (by decide) ?_
          refine W.widen (k := 9 + 10 * (k + 1)) (n := 1277 + 1206 * (k + 1)) (by omega) (by omega) ?_
          exact ih (k + 1) (by omega) (by omega) z dO lf rt u1 fs fo u2 gs go gt H locs ls hz hz2 (hBw.lay3 hu1 hu2) hBs hBo (hP.sub [0, 1, 2, 3, 4, 5, 6, 7, 8] rfl) (hD.sub [0, 1, 2, 3, 4, 5, 6, 7, 8] (by decide) rfl) hS (lv_sub hl [1, 2, 3, 0] rfl)
        · skip
          refine lv_tableIn (off := 86) (tgt := 119) hx hb dL_law_33 (by decide) (by decide) rfl (by decide) ?_
          refine lv_aload_n hx hb dL_law_119 rfl (lv_at hl 1 rfl) ?_
          refine lv_aload_n hx hb dL_law_120 rfl (lv_at hl 0 rfl) ?_
          refine lv_iload_n hx hb dL_law_121 rfl (lv_at hl 3 rfl) ?_
          refine lv_iconst (v := 1) hx hb dL_law_122 (by decide) ?_
          refine lv_iadd hx hb dL_law_123 ?_
          refine cx_top (nI (6 * k + 1)) (nI_1 (6 * k)) ?_
          refine cx_sld hx hb hX hbl hbA hS ((6 * k + 1)) (rfl) (by omega) (by omega) dL_law_124 ?_
          refine cx_callv (wr := [(mx, .inr (1, [.ref mw, .int (nI z), .ref ms, .ref mo, .ref mt, .int lf, .int rt])), aI cI mw 72 gw, aI cI ms 16 gs, aI cI mo 24 go, aI cI mt 1042 gt]) (va_runV (As := [.int (xs (6 * k + 1))]) (rest := []) ⟨hx, hb, hml, hown, hts⟩ (met_dcut l dC dI cI cB dx dw ds dO z fw fs fo (xs (6 * k + 1)) H.size) (cwV 1 hts (lw_V q54 q55 q56 q11 q57) rfl rfl rfl (by decide +kernel) ⟨Nat.le_of_ble_eq_true rfl, Nat.le_of_ble_eq_true rfl⟩) (cx_preV (ci := 0) (q0 := 0) rfl rfl hP hD hK [0, 1, 2, 3] rfl (by decide) rfl (cx_No_b) (fun _ _ _ => trivial)) rfl rfl hl.1 rfl (lv_room (Nat.le_of_ble_eq_true rfl)) dL_law_125 ⟨by omega, by omega⟩) hP hD hS hA [0, 1, 2, 3] [4, 5, 6, 7, 8] rfl rfl (by decide) (by decide) (fun u1 H locs _ hP hD hS => ?_)
          have hP : va_P (dC, dI) vwCl [(mx, .inr (1, [.ref mw, .int (nI z), .ref ms, .ref mo, .ref mt, .int lf, .int rt])), aI cI mw 72 gw, aI cI ms 16 gs, aI cI mo 24 go, aI cI mt 1042 gt, (dx, .inr (0, [.ref dw, .int (nI (1 + bf_md (xs (6 * k + 1)) 72)), .ref ds, .ref dO])), aI cB dw 72 fw, aI cB ds 16 fs, aI cB dO 24 fo] H := hP
          have hD : va_D A [(mx, .inr (1, [.ref mw, .int (nI z), .ref ms, .ref mo, .ref mt, .int lf, .int rt])), aI cI mw 72 gw, aI cI ms 16 gs, aI cI mo 24 go, aI cI mt 1042 gt, (dx, .inr (0, [.ref dw, .int (nI (1 + bf_md (xs (6 * k + 1)) 72)), .ref ds, .ref dO])), aI cB dw 72 fw, aI cB ds 16 fs, aI cB dO 24 fo] := hD
          refine lv_aload_n hx hb dL_law_128 rfl (lv_at hl 2 rfl) ?_
          refine lv_aload_n hx hb dL_law_129 rfl (lv_at hl 0 rfl) ?_
          refine lv_iload_n hx hb dL_law_130 rfl (lv_at hl 3 rfl) ?_
          refine lv_iconst (v := 1) hx hb dL_law_131 (by decide) ?_
          refine lv_iadd hx hb dL_law_132 ?_
          refine cx_top (nI (6 * k + 1)) (nI_1 (6 * k)) ?_
          refine cx_sld hx hb hX hbl hbA hS ((6 * k + 1)) (rfl) (by omega) (by omega) dL_law_133 ?_
          refine cx_callv (wr := [(dx, .inr (0, [.ref dw, .int (nI (1 + bf_md (xs (6 * k + 1)) 72)), .ref ds, .ref dO])), aI cB dw 72 fw, aI cB ds 16 fs, aI cB dO 24 fo]) (va_runV (As := [.int (xs (6 * k + 1))]) (rest := []) ⟨hx, hb, hml, hown, hts⟩ (met_mcut l dC dI cI cB mx mw ms mo mt z lf rt gw gs go gt (xs (6 * k + 1)) H.size) (cwV 1 hts (lw_V q278 q279 q280 q12 q281) rfl rfl rfl (by decide +kernel) ⟨Nat.le_of_ble_eq_true rfl, Nat.le_of_ble_eq_true rfl⟩) (cx_preV (ci := 1) (q0 := 0) rfl rfl hP hD hK [0, 1, 2, 3, 4] rfl (by decide) rfl (cx_No_b) (fun _ _ _ => trivial)) rfl rfl hl.1 rfl (lv_room (Nat.le_of_ble_eq_true rfl)) dL_law_134 ⟨by omega, by omega⟩) hP hD hS hA [0, 1, 2, 3, 4] [5, 6, 7, 8] rfl rfl (by decide) (by decide) (fun u2 H locs _ hP hD hS => ?_)
          have hP : va_P (dC, dI) vwCl [(dx, .inr (0, [.ref dw, .int (nI (1 + bf_md (xs (6 * k + 1)) 72)), .ref ds, .ref dO])), aI cB dw 72 fw, aI cB ds 16 fs, aI cB dO 24 fo, (mx, .inr (1, [.ref mw, .int (nI (1 + bf_md (xs (6 * k + 1)) 72)), .ref ms, .ref mo, .ref mt, .int lf, .int rt])), aI cI mw 72 gw, aI cI ms 16 gs, aI cI mo 24 go, aI cI mt 1042 gt] H := hP
          have hD : va_D A [(dx, .inr (0, [.ref dw, .int (nI (1 + bf_md (xs (6 * k + 1)) 72)), .ref ds, .ref dO])), aI cB dw 72 fw, aI cB ds 16 fs, aI cB dO 24 fo, (mx, .inr (1, [.ref mw, .int (nI (1 + bf_md (xs (6 * k + 1)) 72)), .ref ms, .ref mo, .ref mt, .int lf, .int rt])), aI cI mw 72 gw, aI cI ms 16 gs, aI cI mo 24 go, aI cI mt 1042 gt] := hD
          refine lv_goto (tgt := 235) hx hb dL_law_137 (by decide) ?_
          have hm72 := bf_md_lt (xs (6 * k + 1)) (d := 72) (by decide)
          refine lv_iinc (v := nI (6 * (k + 1))) (lv' := [(3, .int (nI (6 * (k + 1)))), (0, .ref b), (1, .ref dx), (2, .ref mx)]) hx hb dL_law_235 hl (k := 3) rfl (nI_add (6 * k) 6) (by decide) rfl (fun ls hl => ?_)
          refine lv_goto (tgt := 18) hx hb dL_law_238 (by decide) ?_
          refine W.widen (k := 9 + 10 * (k + 1)) (n := 1277 + 1206 * (k + 1)) (by omega) (by omega) ?_
          exact ih (k + 1) (by omega) (by omega) (1 + bf_md (xs (6 * k + 1)) 72) dO lf rt fw fs fo gw gs go gt H locs ls (by omega) (by omega) hBw hBs hBo (hP.sub [0, 1, 2, 3, 4, 5, 6, 7, 8] rfl) (hD.sub [0, 1, 2, 3, 4, 5, 6, 7, 8] (by decide) rfl) hS (lv_sub hl [1, 2, 3, 0] rfl)
        · skip
          refine lv_tableIn (off := 107) (tgt := 140) hx hb dL_law_33 (by decide) (by decide) rfl (by decide) ?_
          refine lv_aload_n hx hb dL_law_140 rfl (lv_at hl 1 rfl) ?_
          refine lv_aload_n hx hb dL_law_141 rfl (lv_at hl 0 rfl) ?_
          refine lv_iload_n hx hb dL_law_142 rfl (lv_at hl 3 rfl) ?_
          refine lv_iconst (v := 1) hx hb dL_law_143 (by decide) ?_
          refine lv_iadd hx hb dL_law_144 ?_
          refine cx_top (nI (6 * k + 1)) (nI_1 (6 * k)) ?_
          refine cx_sld hx hb hX hbl hbA hS ((6 * k + 1)) (rfl) (by omega) (by omega) dL_law_145 ?_
          refine lv_aload_n hx hb dL_law_146 rfl (lv_at hl 0 rfl) ?_
          refine lv_iload_n hx hb dL_law_147 rfl (lv_at hl 3 rfl) ?_
          refine lv_iconst (v := 2) hx hb dL_law_148 (by decide) ?_
          refine lv_iadd hx hb dL_law_149 ?_
          refine cx_top (nI (6 * k + 2)) (nI_add (6 * k) 2) ?_
          refine cx_sld hx hb hX hbl hbA hS ((6 * k + 2)) (rfl) (by omega) (by omega) dL_law_150 ?_
          refine lv_aload_n hx hb dL_law_151 rfl (lv_at hl 0 rfl) ?_
          refine lv_iload_n hx hb dL_law_152 rfl (lv_at hl 3 rfl) ?_
          refine lv_iconst (v := 3) hx hb dL_law_153 (by decide) ?_
          refine lv_iadd hx hb dL_law_154 ?_
          refine cx_top (nI (6 * k + 3)) (nI_add (6 * k) 3) ?_
          refine cx_sld hx hb hX hbl hbA hS ((6 * k + 3)) (rfl) (by omega) (by omega) dL_law_155 ?_
          refine lv_aload_n hx hb dL_law_156 rfl (lv_at hl 0 rfl) ?_
          refine lv_iload_n hx hb dL_law_157 rfl (lv_at hl 3 rfl) ?_
          refine lv_iconst (v := 4) hx hb dL_law_158 (by decide) ?_
          refine lv_iadd hx hb dL_law_159 ?_
          refine cx_top (nI (6 * k + 4)) (nI_add (6 * k) 4) ?_
          refine cx_sld hx hb hX hbl hbA hS ((6 * k + 4)) (rfl) (by omega) (by omega) dL_law_160 ?_
          refine cx_callv (wr := [(mx, .inr (1, [.ref mw, .int (nI z), .ref ms, .ref mo, .ref mt, .int lf, .int rt])), aI cI mw 72 gw, aI cI ms 16 gs, aI cI mo 24 go, aI cI mt 1042 gt]) (va_runV (As := [.int (xs (6 * k + 1)), .int (xs (6 * k + 2)), .int (xs (6 * k + 3)), .int (xs (6 * k + 4))]) (rest := []) ⟨hx, hb, hml, hown, hts⟩ (met_dsalt l dC dI cI cB dx dw ds dO z fw fs fo (xs (6 * k + 1)) (xs (6 * k + 2)) (xs (6 * k + 3)) (xs (6 * k + 4)) H.size) (cwV 4 hts (lw_V q58 q59 q60 q11 q61) rfl rfl rfl (by decide +kernel) ⟨Nat.le_of_ble_eq_true rfl, Nat.le_of_ble_eq_true rfl⟩) (cx_preV (ci := 0) (q0 := 0) rfl rfl hP hD hK [0, 1, 2, 3] rfl (by decide) rfl (cx_No_b) (fun _ _ _ => trivial)) rfl rfl hl.1 rfl (lv_room (Nat.le_of_ble_eq_true rfl)) dL_law_161 ⟨by omega, by omega⟩) hP hD hS hA [0, 1, 2, 3] [4, 5, 6, 7, 8] rfl rfl (by decide) (by decide) (fun u1 H locs hu1 hP hD hS => ?_)
          have hP : va_P (dC, dI) vwCl [(mx, .inr (1, [.ref mw, .int (nI z), .ref ms, .ref mo, .ref mt, .int lf, .int rt])), aI cI mw 72 gw, aI cI ms 16 gs, aI cI mo 24 go, aI cI mt 1042 gt, (dx, .inr (0, [.ref dw, .int (nI z), .ref ds, .ref dO])), aI cB dw 72 fw, aI cB ds 16 u1, aI cB dO 24 fo] H := hP
          have hD : va_D A [(mx, .inr (1, [.ref mw, .int (nI z), .ref ms, .ref mo, .ref mt, .int lf, .int rt])), aI cI mw 72 gw, aI cI ms 16 gs, aI cI mo 24 go, aI cI mt 1042 gt, (dx, .inr (0, [.ref dw, .int (nI z), .ref ds, .ref dO])), aI cB dw 72 fw, aI cB ds 16 u1, aI cB dO 24 fo] := hD
          refine lv_aload_n hx hb dL_law_164 rfl (lv_at hl 2 rfl) ?_
          refine lv_aload_n hx hb dL_law_165 rfl (lv_at hl 0 rfl) ?_
          refine lv_iload_n hx hb dL_law_166 rfl (lv_at hl 3 rfl) ?_
          refine lv_iconst (v := 1) hx hb dL_law_167 (by decide) ?_
          refine lv_iadd hx hb dL_law_168 ?_
          refine cx_top (nI (6 * k + 1)) (nI_1 (6 * k)) ?_
          refine cx_sld hx hb hX hbl hbA hS ((6 * k + 1)) (rfl) (by omega) (by omega) dL_law_169 ?_
          refine lv_aload_n hx hb dL_law_170 rfl (lv_at hl 0 rfl) ?_
          refine lv_iload_n hx hb dL_law_171 rfl (lv_at hl 3 rfl) ?_
          refine lv_iconst (v := 2) hx hb dL_law_172 (by decide) ?_
          refine lv_iadd hx hb dL_law_173 ?_
          refine cx_top (nI (6 * k + 2)) (nI_add (6 * k) 2) ?_
          refine cx_sld hx hb hX hbl hbA hS ((6 * k + 2)) (rfl) (by omega) (by omega) dL_law_174 ?_
          refine lv_aload_n hx hb dL_law_175 rfl (lv_at hl 0 rfl) ?_
          refine lv_iload_n hx hb dL_law_176 rfl (lv_at hl 3 rfl) ?_
          refine lv_iconst (v := 3) hx hb dL_law_177 (by decide) ?_
          refine lv_iadd hx hb dL_law_178 ?_
          refine cx_top (nI (6 * k + 3)) (nI_add (6 * k) 3) ?_
          refine cx_sld hx hb hX hbl hbA hS ((6 * k + 3)) (rfl) (by omega) (by omega) dL_law_179 ?_
          refine lv_aload_n hx hb dL_law_180 rfl (lv_at hl 0 rfl) ?_
          refine lv_iload_n hx hb dL_law_181 rfl (lv_at hl 3 rfl) ?_
          refine lv_iconst (v := 4) hx hb dL_law_182 (by decide) ?_
          refine lv_iadd hx hb dL_law_183 ?_
          refine cx_top (nI (6 * k + 4)) (nI_add (6 * k) 4) ?_
          refine cx_sld hx hb hX hbl hbA hS ((6 * k + 4)) (rfl) (by omega) (by omega) dL_law_184 ?_
          refine cx_callv (wr := [(dx, .inr (0, [.ref dw, .int (nI z), .ref ds, .ref dO])), aI cB dw 72 fw, aI cB ds 16 u1, aI cB dO 24 fo]) (va_runV (As := [.int (xs (6 * k + 1)), .int (xs (6 * k + 2)), .int (xs (6 * k + 3)), .int (xs (6 * k + 4))]) (rest := []) ⟨hx, hb, hml, hown, hts⟩ (met_msalt l dC dI cI cB mx mw ms mo mt z lf rt gw gs go gt (xs (6 * k + 1)) (xs (6 * k + 2)) (xs (6 * k + 3)) (xs (6 * k + 4)) H.size) (cwV 4 hts (lw_V q282 q283 q284 q12 q285) rfl rfl rfl (by decide +kernel) ⟨Nat.le_of_ble_eq_true rfl, Nat.le_of_ble_eq_true rfl⟩) (cx_preV (ci := 1) (q0 := 0) rfl rfl hP hD hK [0, 1, 2, 3, 4] rfl (by decide) rfl (cx_No_b) (fun _ _ _ => trivial)) rfl rfl hl.1 rfl (lv_room (Nat.le_of_ble_eq_true rfl)) dL_law_185 ⟨by omega, by omega⟩) hP hD hS hA [0, 1, 2, 3, 4] [5, 6, 7, 8] rfl rfl (by decide) (by decide) (fun u2 H locs hu2 hP hD hS => ?_)
          have hP : va_P (dC, dI) vwCl [(dx, .inr (0, [.ref dw, .int (nI z), .ref ds, .ref dO])), aI cB dw 72 fw, aI cB ds 16 u1, aI cB dO 24 fo, (mx, .inr (1, [.ref mw, .int (nI z), .ref ms, .ref mo, .ref mt, .int lf, .int rt])), aI cI mw 72 gw, aI cI ms 16 u2, aI cI mo 24 go, aI cI mt 1042 gt] H := hP
          have hD : va_D A [(dx, .inr (0, [.ref dw, .int (nI z), .ref ds, .ref dO])), aI cB dw 72 fw, aI cB ds 16 u1, aI cB dO 24 fo, (mx, .inr (1, [.ref mw, .int (nI z), .ref ms, .ref mo, .ref mt, .int lf, .int rt])), aI cI mw 72 gw, aI cI ms 16 u2, aI cI mo 24 go, aI cI mt 1042 gt] := hD
          refine lv_goto (tgt := 235) hx hb dL_law_188 (by decide) ?_
          refine lv_iinc (v := nI (6 * (k + 1))) (lv' := [(3, .int (nI (6 * (k + 1)))), (0, .ref b), (1, .ref dx), (2, .ref mx)]) hx hb dL_law_235 hl (k := 3) rfl (nI_add (6 * k) 6) (by decide) rfl (fun ls hl => ?_)
          refine lv_goto (tgt := 18) hx hb dL_law_238 (by decide) ?_
          refine W.widen (k := 9 + 10 * (k + 1)) (n := 1277 + 1206 * (k + 1)) (by omega) (by omega) ?_
          exact ih (k + 1) (by omega) (by omega) z dO lf rt fw u1 fo gw u2 go gt H locs ls hz hz2 hBw (hBs.lay4 hu1 hu2) hBo (hP.sub [0, 1, 2, 3, 4, 5, 6, 7, 8] rfl) (hD.sub [0, 1, 2, 3, 4, 5, 6, 7, 8] (by decide) rfl) hS (lv_sub hl [1, 2, 3, 0] rfl)
        · skip
          refine lv_tableIn (off := 158) (tgt := 191) hx hb dL_law_33 (by decide) (by decide) rfl (by decide) ?_
          refine lv_aload_n hx hb dL_law_191 rfl (lv_at hl 1 rfl) ?_
          refine lv_aload_n hx hb dL_law_192 rfl (lv_at hl 0 rfl) ?_
          refine lv_iload_n hx hb dL_law_193 rfl (lv_at hl 3 rfl) ?_
          refine lv_iconst (v := 1) hx hb dL_law_194 (by decide) ?_
          refine lv_iadd hx hb dL_law_195 ?_
          refine cx_top (nI (6 * k + 1)) (nI_1 (6 * k)) ?_
          refine cx_sld hx hb hX hbl hbA hS ((6 * k + 1)) (rfl) (by omega) (by omega) dL_law_196 ?_
          refine cx_callv (wr := [(mx, .inr (1, [.ref mw, .int (nI z), .ref ms, .ref mo, .ref mt, .int lf, .int rt])), aI cI mw 72 gw, aI cI ms 16 gs, aI cI mo 24 go, aI cI mt 1042 gt]) (va_runV (As := [.int (xs (6 * k + 1))]) (rest := []) ⟨hx, hb, hml, hown, hts⟩ (met_dhash l dC dI cI cB dx dw ds dO z fw fs fo pi_T bf_Mg (xs (6 * k + 1)) hz hz2 H.size) (cwV 1 hts (lw_V q62 q63 q64 q11 q65) rfl rfl rfl (by decide +kernel) ⟨Nat.le_of_ble_eq_true rfl, Nat.le_of_ble_eq_true rfl⟩) (cx_preV (ci := 0) (q0 := 0) rfl rfl hP hD hK [0, 1, 2, 3] rfl (by decide) rfl (cx_Bc_b) (fun U hU hW => hBc.pass hS (va_free (wc := [(dx, .inr (0, [.ref dw, .int (nI z), .ref ds, .ref dO])), aI cB dw 72 fw, aI cB ds 16 fs, aI cB dO 24 fo]) hD hS hA [0, 1, 2, 3] rfl) hU hW)) rfl rfl hl.1 rfl (lv_room (Nat.le_of_ble_eq_true rfl)) dL_law_197 ⟨by omega, by omega⟩) hP hD hS hA [0, 1, 2, 3] [4, 5, 6, 7, 8] rfl rfl (by decide) (by decide) (fun u0 H locs hu1 hP hD hS => ?_)
          obtain ⟨u1, dN⟩ := u0
          have hP : va_P (dC, dI) vwCl [(mx, .inr (1, [.ref mw, .int (nI z), .ref ms, .ref mo, .ref mt, .int lf, .int rt])), aI cI mw 72 gw, aI cI ms 16 gs, aI cI mo 24 go, aI cI mt 1042 gt, (dx, .inr (0, [.ref dw, .int (nI z), .ref ds, .ref dN])), aI cB dw 72 fw, aI cB ds 16 fs, aI cB dN 24 u1] H := hP
          have hD : va_D A [(mx, .inr (1, [.ref mw, .int (nI z), .ref ms, .ref mo, .ref mt, .int lf, .int rt])), aI cI mw 72 gw, aI cI ms 16 gs, aI cI mo 24 go, aI cI mt 1042 gt, (dx, .inr (0, [.ref dw, .int (nI z), .ref ds, .ref dN])), aI cB dw 72 fw, aI cB ds 16 fs, aI cB dN 24 u1] := hD
          refine lv_aload_n hx hb dL_law_200 rfl (lv_at hl 2 rfl) ?_
          refine lv_aload_n hx hb dL_law_201 rfl (lv_at hl 0 rfl) ?_
          refine lv_iload_n hx hb dL_law_202 rfl (lv_at hl 3 rfl) ?_
          refine lv_iconst (v := 1) hx hb dL_law_203 (by decide) ?_
          refine lv_iadd hx hb dL_law_204 ?_
          refine cx_top (nI (6 * k + 1)) (nI_1 (6 * k)) ?_
          refine cx_sld hx hb hX hbl hbA hS ((6 * k + 1)) (rfl) (by omega) (by omega) dL_law_205 ?_
          refine cx_callv (wr := [(dx, .inr (0, [.ref dw, .int (nI z), .ref ds, .ref dN])), aI cB dw 72 fw, aI cB ds 16 fs, aI cB dN 24 u1]) (va_runV (As := [.int (xs (6 * k + 1))]) (rest := []) ⟨hx, hb, hml, hown, hts⟩ (met_mhash l dC dI cI cB mx mw ms mo mt z lf rt gw gs go gt pi_T (xs (6 * k + 1)) hz hz2 H.size) (cwV 1 hts (lw_V q286 q287 q288 q12 q289) rfl rfl rfl (by decide +kernel) ⟨Nat.le_of_ble_eq_true rfl, Nat.le_of_ble_eq_true rfl⟩) (cx_preV (ci := 1) (q0 := 0) rfl rfl hP hD hK [0, 1, 2, 3, 4] rfl (by decide) rfl (cx_Pi_b) (fun U hU hW => hPi.pass hS (va_free (wc := [(mx, .inr (1, [.ref mw, .int (nI z), .ref ms, .ref mo, .ref mt, .int lf, .int rt])), aI cI mw 72 gw, aI cI ms 16 gs, aI cI mo 24 go, aI cI mt 1042 gt]) hD hS hA [0, 1, 2, 3, 4] rfl) hU hW)) rfl rfl hl.1 rfl (lv_room (Nat.le_of_ble_eq_true rfl)) dL_law_206 ⟨by omega, by omega⟩) hP hD hS hA [0, 1, 2, 3, 4] [5, 6, 7, 8] rfl rfl (by decide) (by decide) (fun u2 H locs hu2 hP hD hS => ?_)
          obtain ⟨v1, v2, v3, v4⟩ := u2
          have hP : va_P (dC, dI) vwCl [(dx, .inr (0, [.ref dw, .int (nI z), .ref ds, .ref dN])), aI cB dw 72 fw, aI cB ds 16 fs, aI cB dN 24 u1, (mx, .inr (1, [.ref mw, .int (nI z), .ref ms, .ref mo, .ref mt, .int v3, .int v4])), aI cI mw 72 gw, aI cI ms 16 gs, aI cI mo 24 v1, aI cI mt 1042 v2] H := hP
          have hD : va_D A [(dx, .inr (0, [.ref dw, .int (nI z), .ref ds, .ref dN])), aI cB dw 72 fw, aI cB ds 16 fs, aI cB dN 24 u1, (mx, .inr (1, [.ref mw, .int (nI z), .ref ms, .ref mo, .ref mt, .int v3, .int v4])), aI cI mw 72 gw, aI cI ms 16 gs, aI cI mo 24 v1, aI cI mt 1042 v2] := hD
          refine lv_goto (tgt := 235) hx hb dL_law_209 (by decide) ?_
          refine lv_iinc (v := nI (6 * (k + 1))) (lv' := [(3, .int (nI (6 * (k + 1)))), (0, .ref b), (1, .ref dx), (2, .ref mx)]) hx hb dL_law_235 hl (k := 3) rfl (nI_add (6 * k) 6) (by decide) rfl (fun ls hl => ?_)
          refine lv_goto (tgt := 18) hx hb dL_law_238 (by decide) ?_
          refine W.widen (k := 9 + 10 * (k + 1)) (n := 1277 + 1206 * (k + 1)) (by omega) (by omega) ?_
          exact ih (k + 1) (by omega) (by omega) z dN v3 v4 fw fs u1 gw gs v1 v2 H locs ls hz hz2 hBw hBs (law_hash hz hz2 hBw hBs hu1 hu2) (hP.sub [0, 1, 2, 3, 4, 5, 6, 7, 8] rfl) (hD.sub [0, 1, 2, 3, 4, 5, 6, 7, 8] (by decide) rfl) hS (lv_sub hl [1, 2, 3, 0] rfl)
        · skip
          refine lv_tableIn (off := 179) (tgt := 212) hx hb dL_law_33 (by decide) (by decide) rfl (by decide) ?_
          refine lv_aload_n hx hb dL_law_212 rfl (lv_at hl 1 rfl) ?_
          refine lv_aload_n hx hb dL_law_213 rfl (lv_at hl 0 rfl) ?_
          refine lv_iload_n hx hb dL_law_214 rfl (lv_at hl 3 rfl) ?_
          refine lv_iconst (v := 1) hx hb dL_law_215 (by decide) ?_
          refine lv_iadd hx hb dL_law_216 ?_
          refine cx_top (nI (6 * k + 1)) (nI_1 (6 * k)) ?_
          refine cx_sld hx hb hX hbl hbA hS ((6 * k + 1)) (rfl) (by omega) (by omega) dL_law_217 ?_
          refine vp_callSi (va_runV (As := [.int (xs (6 * k + 1))]) (rest := []) ⟨hx, hb, hml, hown, hts⟩ (met_dout l dC dI cI cB dx dw ds dO z fw fs fo (xs (6 * k + 1))) (cwV 1 hts (lw_V q238 q239 q240 q11 q241) rfl rfl rfl (by decide +kernel) ⟨Nat.le_of_ble_eq_true rfl, Nat.le_of_ble_eq_true rfl⟩) (cx_ppV (ci := 0) (q0 := 0) rfl rfl hP hK [0, 1, 2, 3] rfl) rfl rfl hl.1 rfl (lv_room (Nat.le_of_ble_eq_true rfl)) dL_law_218 ⟨by omega, by omega⟩).run (fun r_1 hr_1 => ?_)
          obtain rfl : r_1 = fo (bf_md (xs (6 * k + 1)) 24) &&& 255 := hr_1
          refine lv_aload_n hx hb dL_law_221 rfl (lv_at hl 2 rfl) ?_
          refine lv_aload_n hx hb dL_law_222 rfl (lv_at hl 0 rfl) ?_
          refine lv_iload_n hx hb dL_law_223 rfl (lv_at hl 3 rfl) ?_
          refine lv_iconst (v := 1) hx hb dL_law_224 (by decide) ?_
          refine lv_iadd hx hb dL_law_225 ?_
          refine cx_top (nI (6 * k + 1)) (nI_1 (6 * k)) ?_
          refine cx_sld hx hb hX hbl hbA hS ((6 * k + 1)) (rfl) (by omega) (by omega) dL_law_226 ?_
          refine vp_callSi (va_runV (As := [.int (xs (6 * k + 1))]) (rest := [.int (fo (bf_md (xs (6 * k + 1)) 24) &&& 255)]) ⟨hx, hb, hml, hown, hts⟩ (met_mout l dC dI cI cB mx mw ms mo mt z lf rt gw gs go gt (xs (6 * k + 1))) (cwV 1 hts (lw_V q303 q304 q305 q12 q306) rfl rfl rfl (by decide +kernel) ⟨Nat.le_of_ble_eq_true rfl, Nat.le_of_ble_eq_true rfl⟩) (cx_ppV (ci := 1) (q0 := 4) rfl rfl hP hK [4, 5, 6, 7, 8] rfl) rfl rfl hl.1 rfl (lv_room (Nat.le_of_ble_eq_true rfl)) dL_law_227 ⟨by omega, by omega⟩).run (fun r_2 hr_2 => ?_)
          obtain rfl : r_2 = go (bf_md (xs (6 * k + 1)) 24) := hr_2
          refine lv_icmp_eq (tgt := 235) hx hb dL_law_230 (by decide) (fun _ => ?_) (fun c9 => absurd ((hBo _ (bf_md_lt _ (by decide))).symm) c9)
          refine lv_iinc (v := nI (6 * (k + 1))) (lv' := [(3, .int (nI (6 * (k + 1)))), (0, .ref b), (1, .ref dx), (2, .ref mx)]) hx hb dL_law_235 hl (k := 3) rfl (nI_add (6 * k) 6) (by decide) rfl (fun ls hl => ?_)
          refine lv_goto (tgt := 18) hx hb dL_law_238 (by decide) ?_
          refine W.widen (k := 9 + 10 * (k + 1)) (n := 1277 + 1206 * (k + 1)) (by omega) (by omega) ?_
          exact ih (k + 1) (by omega) (by omega) z dO lf rt fw fs fo gw gs go gt H locs ls hz hz2 hBw hBs hBo (hP.sub [0, 1, 2, 3, 4, 5, 6, 7, 8] rfl) (hD.sub [0, 1, 2, 3, 4, 5, 6, 7, 8] (by decide) rfl) hS (lv_sub hl [1, 2, 3, 0] rfl)
        · skip
          refine lv_tableOut (tgt := 235) hx hb dL_law_33 (by decide) (by decide) ?_
          refine lv_iinc (v := nI (6 * (k + 1))) (lv' := [(3, .int (nI (6 * (k + 1)))), (0, .ref b), (1, .ref dx), (2, .ref mx)]) hx hb dL_law_235 hl (k := 3) rfl (nI_add (6 * k) 6) (by decide) rfl (fun ls hl => ?_)
          refine lv_goto (tgt := 18) hx hb dL_law_238 (by decide) ?_
          refine W.widen (k := 9 + 10 * (k + 1)) (n := 1277 + 1206 * (k + 1)) (by omega) (by omega) ?_
          exact ih (k + 1) (by omega) (by omega) z dO lf rt fw fs fo gw gs go gt H locs ls hz hz2 hBw hBs hBo (hP.sub [0, 1, 2, 3, 4, 5, 6, 7, 8] rfl) (hD.sub [0, 1, 2, 3, 4, 5, 6, 7, 8] (by decide) rfl) hS (lv_sub hl [1, 2, 3, 0] rfl)
        · skip
          refine lv_tableOut (tgt := 235) hx hb dL_law_33 (by decide) (by decide) ?_
          refine lv_iinc (v := nI (6 * (k + 1))) (lv' := [(3, .int (nI (6 * (k + 1)))), (0, .ref b), (1, .ref dx), (2, .ref mx)]) hx hb dL_law_235 hl (k := 3) rfl (nI_add (6 * k) 6) (by decide) rfl (fun ls hl => ?_)
          refine lv_goto (tgt := 18) hx hb dL_law_238 (by decide) ?_
          refine W.widen (k := 9 + 10 * (k + 1)) (n := 1277 + 1206 * (k + 1)) (by omega) (by omega) ?_
          exact ih (k + 1) (by omega) (by omega) z dO lf rt fw fs fo gw gs go gt H locs ls hz hz2 hBw hBs hBo (hP.sub [0, 1, 2, 3, 4, 5, 6, 7, 8] rfl) (hD.sub [0, 1, 2, 3, 4, 5, 6, 7, 8] (by decide) rfl) hS (lv_sub hl [1, 2, 3, 0] rfl)
        · skip
          refine lv_tableOut (tgt := 235) hx hb dL_law_33 (by decide) (by decide) ?_
          refine lv_iinc (v := nI (6 * (k + 1))) (lv' := [(3, .int (nI (6 * (k + 1)))), (0, .ref b), (1, .ref dx), (2, .ref mx)]) hx hb dL_law_235 hl (k := 3) rfl (nI_add (6 * k) 6) (by decide) rfl (fun ls hl => ?_)
          refine lv_goto (tgt := 18) hx hb dL_law_238 (by decide) ?_
          refine W.widen (k := 9 + 10 * (k + 1)) (n := 1277 + 1206 * (k + 1)) (by omega) (by omega) ?_
          exact ih (k + 1) (by omega) (by omega) z dO lf rt fw fs fo gw gs go gt H locs ls hz hz2 hBw hBs hBo (hP.sub [0, 1, 2, 3, 4, 5, 6, 7, 8] rfl) (hD.sub [0, 1, 2, 3, 4, 5, 6, 7, 8] (by decide) rfl) hS (lv_sub hl [1, 2, 3, 0] rfl)
  exact loop 17 0 (by omega) (by omega) 1 dO 0 0 _ _ _ _ _ _ _ H locs ls (by decide) (by decide) (fun _ _ => by decide) (fun _ _ => by decide) (fun _ _ => by decide) (hP.sub [0, 1, 2, 3, 4, 5, 6, 7, 8] rfl) (hD.sub [0, 1, 2, 3, 4, 5, 6, 7, 8] (by decide) rfl) hS (lv_sub hl [3, 2, 1, 0] rfl)
end
section
set_option maxRecDepth 100000
-- ===== YOUR PART ENDS =====
set_option maxHeartbeats 4000000 in
theorem lw_walk (l : Launch) (hflags : l.flags = flags0) (b : Addr) (xs : List Int32) : MetFree l x (headSpec (Jvm.Cond.code x code maxLocals ret :: tables_1) room_1) (lw_P b xs) (fun _ _ _ _ _ => True) lw_Q := by
  refine MetFree.of_bodyS (code := code) (maxLocals := maxLocals) (ret := ret) (by decide) ?_ ?_
  · intro args s m h hn
    obtain ⟨meth, c, h1, h2, h3, h4, h5, h6, -, -⟩ := Cond.code_spec hn (atoms_spec (ws := Jvm.Cond.code x code maxLocals ret :: tables_1) h _ List.mem_cons_self)
    exact ⟨meth, c, h1, h2, h3, h4, h5, h6⟩
  · intro p e s m args below meth c s₁ B hml0 hP _
    obtain ⟨rfl, hx, hbd, hgv⟩ := hP
    obtain ⟨scr, harrAt, hlist, hof, hsmall⟩ := hx
    obtain ⟨hcb, hkn, -, -⟩ := State.arrayAt?_spec harrAt
    have hown : s.vm.findClass R_law = some m.cls := findClass_of_methodNamed B.named
    have hts0 : ∀ c ∈ (Jvm.Cond.code x code maxLocals ret :: tables_1), c.before #[Value.ref b] s = true := atoms_spec (ws := Jvm.Cond.code x code maxLocals ret :: tables_1) B.pre
    have hts : ∀ w ∈ lw_tbl, w.before #[Value.ref b] s = true := k2_hts_sels lw_privs (fun w hw => hts0 w (List.mem_cons_of_mem _ hw)) lw_privs_ok
    have hml : c.maxLocals = 4 := B.maxLocals_eq (hts0 _ List.mem_cons_self)
    have X₀ : Stand p l e room_1 s m #[Value.ref b] below meth c s₁ [] 0 0 := Stand.of_body B
    have hh0 : s₁.heap = s.heap := by rw [B.state]; rfl
    have hsz : scr.slots.size = xs.length := by rw [← Array.length_toList, hlist, List.length_map]
    have hval : ∀ j : Nat, j < xs.length → scr.slots[j]? = some (.int (xs.getD j 0)) := fun j hj => by
      rw [← Array.getElem?_toList, hlist]
      simp [hj]
    have hbl : b < s.heap.size := (Array.getElem?_eq_some_iff.mp hcb).1
    have hX : va_X b xs.length (fun j => xs.getD j 0) s s.heap := ⟨scr, hcb, hof, hkn, hsz, hval⟩
    have K : W p l e room_1 s m #[Value.ref b] below meth c s₁.heap [] 0 0 (lw_Z below #[Value.ref b] s) (entryFrame m ([Value.ref b] : List Value).toArray 4) := by
      rw [hh0]
      exact whole_start l hflags hbd ⟨B.exec, B.bytes, B.returns, hml, hown, hts, hX, hbl, B.notSynchronized, hgv⟩
    obtain ⟨t, a1, o, b1, b2, b3⟩ := K s₁ rfl X₀
    exact ⟨t, o, a1, b1, b2, b3⟩
theorem lw_pre_spec {args : Array Value} {s : State} (h : (Jvm.Cond.and given_1 narrow_1).before args s = true) (hr : rest_1_c.before args s = true) : ∃ (b : Addr) (xs : List Int32), lw_P b xs args s := by
  have hs := flat_of_before _ h
  have hq := flat_of_before _ hr
  have hc : (Cond.count 1).before args s = true := hs _ (by decide +kernel)
  have harr : (Cond.arrayOf (.arg 0) .int).before args s = true := hs _ (by decide +kernel)
  have hle : (Cond.le (.length (.arg 0)) (.int 96)).before args s = true := hs _ (by decide +kernel)
  have hlen : (Cond.isInt (.length (.arg 0))).before args s = true := hq _ (by decide +kernel)
  have hall : (Cond.all (.arg 0) (.isInt (.elem (.arg 0) (.index 0)))).before args s = true := hq _ (by decide +kernel)
  obtain ⟨b, xs, hb, hx⟩ := State.ints_of_pre rfl harr hlen hall
  have hsm : xs.length < 2 ^ 31 := hx.choose_spec.2.2.2
  have hev : (Term.length (.arg 0)).eval args s none [] s = some (.int xs.length.toInt32) := hx.length_eval hb
  have hv := Cond.le_ints hev (show (Term.int 96).eval args s none [] s = some (.int 96) from rfl)
  have hd : xs.length.toInt32 ≤ 96 := by
    simpa [Cond.before, Cond.holds, hv] using hle
  have hN : xs.length ≤ 96 := (Int32.ofNat_le_ofNat hsm (by decide)).mp (show Int32.ofNat xs.length ≤ Int32.ofNat 96 from hd)
  exact ⟨b, xs, Cond.one_arg hc (show args[0]? = some (.ref b) from hb), hx, hN, h⟩
theorem lw_comes (l : Launch) (hflags : l.flags = flags0) : Comes l x (Jvm.Cond.code x code maxLocals ret :: tables_1) room_1 (fun tb e args s => Calls_1 tb e args s ∧ rest_1 tb e args s ∧ Pre_1 tb e args s)
    (fun _ _ args s o t => lw_Q args s o t) := by
  intro p e ha hc hk s m args below hf hfit hheap happ hpre
  obtain ⟨b, xs, hP⟩ := lw_pre_spec hpre.2.2 hpre.2.1
  obtain ⟨k, o, h1, h2, h3, hQ⟩ := lw_walk l hflags b xs p e ha hc hk s m args below hf ((Spec.applies_iff_loose hf).mp happ).1 hP trivial
  exact ⟨k, o, h1, h2, h3, hQ⟩
theorem lw_frame {s t : State} {o : Outcome} {args : Array Value} (h : Framed s o t [] 600032 7301962) :
    Framed s o t (fieldLocs frame_1_writes args s ++ arrayLocs frame_1_arrays args s ++ staticLocs frame_1_statics s) 600032 7301962 := h
theorem lw_limb (L : Cond) (hL : ∀ (args : Array Value) (s t : State), L.after args s (.returned (some (.int 1))) t = true) :
    ArmFor flags0 classFile x code maxLocals ret World_1 tables_1 room_1 Calls_1 rest_1 Pre_1
      (fun tb e a s o t => postC L tb e a s o t ∧ Framed s o t (fieldLocs frame_1_writes a s ++ arrayLocs frame_1_arrays a s ++ staticLocs frame_1_statics s) 600032 7301962) := by
  intro l hflags _ _ p e ha hc hk s m args below hf hfit hheap happ hpre
  obtain ⟨k, o, h1, h2, h3, rfl, hF⟩ := lw_comes l hflags p e ha hc hk s m args below hf hfit hheap happ hpre
  exact ⟨k, _, h1, h2, h3, hL args s _, lw_frame hF⟩
theorem i_vc : Claimed_1_1 ∧ Claimed_1_2 := ⟨lw_limb limb_1_1 (fun args s t => by simp [limb_1_1, Cond.after, Cond.holds, Cond.value]), lw_limb limb_1_2 (fun args s t => Cond.after_iff.mpr (by
  first | (rw [show limb_1_2 = Cond.eq .result (.int 1) from rfl, Cond.eq_ints (x := 1) (y := 1) rfl rfl]; simp; done) | (simp [limb_1_2, Cond.value, Term.eval]; done)))⟩
end
