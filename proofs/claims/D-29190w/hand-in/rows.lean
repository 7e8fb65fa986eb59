section
-- ===== PART A: goes FIRST, ahead of the names: the tables' words, and 'selects' of the private methods out of them =====
/-- a private method of a class that the tables say can be made, by its rows of tables_1 -/
def lw_okq (q : MethodName × Nat) : Prop := (q.1.cls ≠ "java/lang/invoke/MethodHandle" ∧ q.1.cls ≠ "java/lang/invoke/VarHandle") ∧ Cond.instantiable q.1.cls q.2 ∈ tables_1 ∧ Cond.privateMethod q.1 ∈ tables_1 ∧ Cond.instanceMethod q.1 ∈ tables_1
set_option maxRecDepth 100000
theorem lw_p0 : lw_okq (⟨"java/lang/Throwable", "fillInStackTrace", "(I)Ljava/lang/Throwable;"⟩, 6) := ⟨⟨by decide +kernel, by decide +kernel⟩, List.mem_of_getElem? (i := 74) rfl, List.mem_of_getElem? (i := 72) rfl, List.mem_of_getElem? (i := 73) rfl⟩
theorem lw_p1 : lw_okq (⟨"BchDeskModel", "divided", "(II)I"⟩, 0) := ⟨⟨by decide +kernel, by decide +kernel⟩, List.mem_of_getElem? (i := 114) rfl, List.mem_of_getElem? (i := 130) rfl, List.mem_of_getElem? (i := 131) rfl⟩
def lw_privs_1 : List (MethodName × Nat) := [(⟨"java/lang/Throwable", "fillInStackTrace", "(I)Ljava/lang/Throwable;"⟩, 6), (⟨"BchDeskModel", "divided", "(II)I"⟩, 0)]
theorem lw_r1 : ∀ q ∈ lw_privs_1, lw_okq q := List.forall_mem_cons.mpr ⟨lw_p0, List.forall_mem_cons.mpr ⟨lw_p1, fun _ h => absurd h List.not_mem_nil⟩⟩
def lw_privs : List (MethodName × Nat) := lw_privs_1
def lw_tbl : List Cond := k2_sels lw_privs ++ tables_1
theorem lw_privs_ok : ∀ q ∈ lw_privs, lw_okq q := lw_r1
-- ===== ONE list of words for every method: the tables' words that hold all through a run =====
def lw_all : List Cond := lw_tbl.filter goodWord
/-- a word of the tables by its place: claim/WORDS.tsv -/
theorem lw_w {w : Cond} (i : Nat) (h : lw_tbl[i]? = some w) (g : goodWord w = true) : w ∈ lw_all := List.mem_filter.mpr ⟨List.mem_of_getElem? h, g⟩
theorem lw_all_tbl {w : Cond} (h : w ∈ lw_all) : w ∈ lw_tbl := (List.mem_filter.mp h).1
theorem lw_self : GoodIn lw_all lw_all := fun w h => ⟨h, good_of_word (List.mem_filter.mp h).2⟩
/-- a class's field words, by their places -/
theorem lw_in (ws : List Cond) (ps : List Nat) (hp : ws = ps.filterMap (fun i => lw_tbl[i]?)) (hg : ws.all goodWord = true) : ∀ w ∈ ws, w ∈ lw_all := by
  intro w h
  have h1 := List.all_eq_true.mp hg w h
  rw [hp] at h
  obtain ⟨i, -, hi⟩ := List.mem_filterMap.mp h
  exact lw_w i hi h1
/-- the words of a contract for the method y with code b, L locals, answer r -/
abbrev ws_ (y : MethodName) (b : ByteArray) (L : Nat) (r : Option FieldType) : List Cond := Cond.code y b L r :: lw_all
theorem lw_meth {y : MethodName} {b : ByteArray} {L : Nat} {r : Option FieldType} (h : Cond.code y b L r ∈ lw_all) : GoodIn lw_all (ws_ y b L r) := by
  intro w hw
  rcases List.mem_cons.mp hw with e | e
  · rw [e]
    exact lw_self _ h
  · exact lw_self _ e
theorem lw_app {a c : List Cond} (ha : ∀ w ∈ a, w ∈ lw_all) (hc : GoodIn lw_all c) : GoodIn lw_all (a ++ c) := by
  intro w hw
  rcases List.mem_append.mp hw with e | e
  · exact lw_self w (ha w e)
  · exact hc w e
/-- what a call through an object asks: cwV n hts (lw_V ..) -/
theorem lw_V {own : String} {idx : Nat} {C : String} {y : MethodName} {b : ByteArray} {L : Nat} {r : Option FieldType} (h1 : Cond.methodLink own idx y ∈ lw_all) (h2 : Cond.instanceMethod y ∈ lw_all) (h3 : Cond.selects C y y ∈ lw_all) (h4 : Cond.initialized C ∈ lw_all) (h5 : Cond.code y b L r ∈ lw_all) : GoodIn lw_all (wsV own idx C y (ws_ y b L r)) := by
  refine lw_app ?_ (lw_meth h5)
  intro w hw
  simp only [List.mem_cons, List.not_mem_nil, or_false] at hw
  rcases hw with e | e | e | e
  · rw [e]; exact h1
  · rw [e]; exact h2
  · rw [e]; exact h3
  · rw [e]; exact h4
/-- what a static call asks: va_cwS n hts (lw_S ..) -/
theorem lw_S {own : String} {idx : Nat} {y : MethodName} {b : ByteArray} {L : Nat} {r : Option FieldType} (h1 : Cond.methodLink own idx y ∈ lw_all) (h2 : Cond.static y ∈ lw_all) (h3 : Cond.initialized y.cls ∈ lw_all) (h4 : Cond.code y b L r ∈ lw_all) : GoodIn lw_all (va_wsS own idx y (ws_ y b L r)) := by
  refine lw_app ?_ (lw_meth h4)
  intro w hw
  simp only [List.mem_cons, List.not_mem_nil, or_false] at hw
  rcases hw with e | e | e
  · rw [e]; exact h1
  · rw [e]; exact h2
  · rw [e]; exact h3
/-- the words of a contract for a method WITH HANDLERS (hh: its table) -/
abbrev wsW_ (y : MethodName) (b : ByteArray) (L : Nat) (r : Option FieldType) (hh : List (Nat × Nat × Nat × Nat)) : List Cond := Cond.codeWith y b L r hh :: lw_all
theorem lw_methW {y : MethodName} {b : ByteArray} {L : Nat} {r : Option FieldType} {hh : List (Nat × Nat × Nat × Nat)} (h : Cond.codeWith y b L r hh ∈ lw_all) : GoodIn lw_all (wsW_ y b L r hh) := by
  intro w hw
  rcases List.mem_cons.mp hw with e | e
  · rw [e]
    exact lw_self _ h
  · exact lw_self _ e
/-- any list of words by their places (lw_in), good -/
theorem lw_good {ws : List Cond} (h : ∀ w ∈ ws, w ∈ lw_all) : GoodIn lw_all ws := fun w hw => lw_self w (h w hw)
/-- what a call of a method with handlers asks: vx_cwVW n hts (lw_VW ..), vx_cwSW n hts (lw_SW ..) -/
theorem lw_VW {own : String} {idx : Nat} {C : String} {y : MethodName} {b : ByteArray} {L : Nat} {r : Option FieldType} {hh : List (Nat × Nat × Nat × Nat)} (h1 : Cond.methodLink own idx y ∈ lw_all) (h2 : Cond.instanceMethod y ∈ lw_all) (h3 : Cond.selects C y y ∈ lw_all) (h4 : Cond.initialized C ∈ lw_all) (h5 : Cond.codeWith y b L r hh ∈ lw_all) : GoodIn lw_all (wsV own idx C y (wsW_ y b L r hh)) := by
  refine lw_app ?_ (lw_methW h5)
  intro w hw
  simp only [List.mem_cons, List.not_mem_nil, or_false] at hw
  rcases hw with e | e | e | e
  · rw [e]; exact h1
  · rw [e]; exact h2
  · rw [e]; exact h3
  · rw [e]; exact h4
theorem lw_SW {own : String} {idx : Nat} {y : MethodName} {b : ByteArray} {L : Nat} {r : Option FieldType} {hh : List (Nat × Nat × Nat × Nat)} (h1 : Cond.methodLink own idx y ∈ lw_all) (h2 : Cond.static y ∈ lw_all) (h3 : Cond.initialized y.cls ∈ lw_all) (h4 : Cond.codeWith y b L r hh ∈ lw_all) : GoodIn lw_all (va_wsS own idx y (wsW_ y b L r hh)) := by
  refine lw_app ?_ (lw_methW h4)
  intro w hw
  simp only [List.mem_cons, List.not_mem_nil, or_false] at hw
  rcases hw with e | e | e
  · rw [e]; exact h1
  · rw [e]; exact h2
  · rw [e]; exact h3
/-- a word by its place in its run of the tables -/
theorem lw_at {r : List Cond} (hr : ∀ w ∈ r, w ∈ lw_tbl) {w : Cond} (i : Nat) (h : r[i]? = some w) : w ∈ lw_tbl := hr w (List.mem_of_getElem? h)
theorem lw_g {w : Cond} (h : w ∈ lw_tbl) (g : goodWord w = true) : w ∈ lw_all := List.mem_filter.mpr ⟨h, g⟩
theorem lw_ms : ∀ w ∈ k2_sels lw_privs, w ∈ lw_tbl := fun w h => show w ∈ k2_sels lw_privs ++ tables_1 from List.mem_append_left _ h
theorem lw_m0 : ∀ w ∈ tables_1, w ∈ lw_tbl := fun w h => show w ∈ k2_sels lw_privs ++ tables_1 from List.mem_append_right (k2_sels lw_privs) h
theorem qs0 : (Cond.selects "java/lang/Throwable" ⟨"java/lang/Throwable", "fillInStackTrace", "(I)Ljava/lang/Throwable;"⟩ ⟨"java/lang/Throwable", "fillInStackTrace", "(I)Ljava/lang/Throwable;"⟩) ∈ lw_all := lw_g (lw_at lw_ms 0 rfl) rfl
theorem qs1 : (Cond.selects "BchDeskModel" ⟨"BchDeskModel", "divided", "(II)I"⟩ ⟨"BchDeskModel", "divided", "(II)I"⟩) ∈ lw_all := lw_g (lw_at lw_ms 1 rfl) rfl
end
section
/-! DECODE ROWS BY BYTES: one lemma an opcode; a method's code is cut into short pieces once, and a row reads its own piece alone. -/
set_option maxRecDepth 100000
/-- the code has just these bytes from pc on -/
def DkAt (code : ByteArray) (pc : Nat) (bs : List UInt8) : Prop := ∀ (j : Nat) (b : UInt8), bs[j]? = some b → code.data.toList[pc + j]? = some b
/-- the piece W has the bytes bs from its place j on -/
def dkIn (W : List UInt8) (j : Nat) (bs : List UInt8) : Bool := decide ((W.drop j).take bs.length = bs)
theorem dk_seg {l W T : List UInt8} {o o2 : Nat} (h : l.drop o = W ++ T) (n : Nat) (hn : W.length = n) (ho : o + n = o2) : l.drop o2 = T := by
  subst ho
  rw [← List.drop_drop, h, List.drop_left' hn]
theorem dk_at {code : ByteArray} {W T bs : List UInt8} {o pc : Nat} (h : code.data.toList.drop o = W ++ T) (j : Nat) (hp : o + j = pc) (hw : dkIn W j bs = true) : DkAt code pc bs := by
  subst hp
  intro i b e
  have h1 := of_decide_eq_true hw
  have h2 : i < bs.length := (List.getElem?_eq_some_iff.mp e).1
  have h3 : W[j + i]? = some b := by
    rw [← h1, List.getElem?_take, if_pos h2, List.getElem?_drop] at e
    exact e
  have h4 : j + i < W.length := (List.getElem?_eq_some_iff.mp h3).1
  have h5 : (code.data.toList.drop o)[j + i]? = some b := by
    rw [h, List.getElem?_append_left h4]
    exact h3
  rw [List.getElem?_drop, ← Nat.add_assoc] at h5
  exact h5
theorem dk_u1 {A : ByteArray} {p : Nat} {b : UInt8} (h : A.data.toList[p]? = some b) : (Reader.u1 : Reader DecodeError Nat) A p = .ok (b.toNat, p + 1) := by
  obtain ⟨h1, h2⟩ := List.getElem?_eq_some_iff.mp h
  have h3 : p < A.size := by simpa using h1
  have h4 : A[p]'h3 = b := h2
  have e : (Reader.u1 : Reader DecodeError Nat) A p = (if h : p < A.size then .ok (A[p].toNat, p + 1) else .error (HasTruncated.truncated p)) := by
    show (do if h : p < A.size then do set (p + 1); Pure.pure A[p].toNat else MonadExcept.throw (HasTruncated.truncated p) : Reader DecodeError Nat) A p = _
    by_cases hi : p < A.size
    · rw [dif_pos hi, dif_pos hi]; rfl
    · rw [dif_neg hi, dif_neg hi]; rfl
  rw [e, dif_pos h3, h4]
theorem dk_bind {α β : Type} {r : Reader DecodeError α} {f : α → Reader DecodeError β} {A : ByteArray} {p s : Nat} {a : α} (h : r A p = .ok (a, s)) : (r >>= f) A p = f a A s := by
  show (do let (a, s) ← r A p; f a A s : Except DecodeError (β × Nat)) = _
  rw [h]
  rfl
theorem dk_map {α β : Type} {r : Reader DecodeError α} {g : α → β} {A : ByteArray} {p s : Nat} {a : α} (h : r A p = .ok (a, s)) : (g <$> r) A p = .ok (g a, s) := by
  show (do let (a, s) ← r A p; .ok (g a, s) : Except DecodeError (β × Nat)) = _
  rw [h]
  rfl
theorem dk_u2 {A : ByteArray} {p : Nat} {a b : UInt8} (h : A.data.toList[p]? = some a) (h2 : A.data.toList[p + 1]? = some b) : (Reader.u2 : Reader DecodeError Nat) A p = .ok (a.toNat * 256 + b.toNat, p + 2) := by
  show (Reader.u1 >>= fun hi => Reader.u1 >>= fun lo => Pure.pure (hi * 256 + lo) : Reader DecodeError Nat) A p = _
  rw [dk_bind (dk_u1 h), dk_bind (dk_u1 h2)]
  rfl
theorem dk_of {code : ByteArray} {pc n : Nat} {i : Instr} (h : Decoder.instr pc code pc = .ok (i, pc + n)) : decode code pc = .ok (i, n) := by
  have e : decode code pc = (match Decoder.instr pc code pc with | .error x => .error x | .ok (j, s) => .ok (j, s - pc)) := by
    show (do let (j, s) ← Decoder.instr pc code pc; Pure.pure (j, s - pc) : Except DecodeError (Instr × Nat)) = _
    cases Decoder.instr pc code pc <;> rfl
  rw [e, h]
  show Except.ok (i, pc + n - pc) = _
  rw [Nat.add_sub_cancel_left]
theorem dk_3 {code : ByteArray} {pc : Nat} (h : DkAt code pc [3]) : decode code pc = .ok (.iconst 0, 1) := dk_of ((dk_bind (dk_u1 (h 0 _ rfl))).trans rfl)
theorem dk_4 {code : ByteArray} {pc : Nat} (h : DkAt code pc [4]) : decode code pc = .ok (.iconst 1, 1) := dk_of ((dk_bind (dk_u1 (h 0 _ rfl))).trans rfl)
theorem dk_5 {code : ByteArray} {pc : Nat} (h : DkAt code pc [5]) : decode code pc = .ok (.iconst 2, 1) := dk_of ((dk_bind (dk_u1 (h 0 _ rfl))).trans rfl)
theorem dk_6 {code : ByteArray} {pc : Nat} (h : DkAt code pc [6]) : decode code pc = .ok (.iconst 3, 1) := dk_of ((dk_bind (dk_u1 (h 0 _ rfl))).trans rfl)
theorem dk_7 {code : ByteArray} {pc : Nat} (h : DkAt code pc [7]) : decode code pc = .ok (.iconst 4, 1) := dk_of ((dk_bind (dk_u1 (h 0 _ rfl))).trans rfl)
theorem dk_16 {code : ByteArray} {pc : Nat} (a : UInt8) (h : DkAt code pc [16, a]) : decode code pc = .ok (.bipush (Reader.signed 8 a.toNat), 2) := dk_of ((dk_bind (dk_u1 (h 0 _ rfl))).trans ((dk_bind (dk_map (dk_u1 (h 1 _ rfl)))).trans rfl))
theorem dk_17 {code : ByteArray} {pc : Nat} (a b : UInt8) (h : DkAt code pc [17, a, b]) : decode code pc = .ok (.sipush (Reader.signed 16 (a.toNat * 256 + b.toNat)), 3) := dk_of ((dk_bind (dk_u1 (h 0 _ rfl))).trans ((dk_bind (dk_map (dk_u2 (h 1 _ rfl) (h 2 _ rfl)))).trans rfl))
theorem dk_18 {code : ByteArray} {pc : Nat} (a : UInt8) (h : DkAt code pc [18, a]) : decode code pc = .ok (.ldc a.toNat, 2) := dk_of ((dk_bind (dk_u1 (h 0 _ rfl))).trans ((dk_bind (dk_u1 (h 1 _ rfl))).trans rfl))
theorem dk_19 {code : ByteArray} {pc : Nat} (a b : UInt8) (h : DkAt code pc [19, a, b]) : decode code pc = .ok (.ldc_w (a.toNat * 256 + b.toNat), 3) := dk_of ((dk_bind (dk_u1 (h 0 _ rfl))).trans ((dk_bind (dk_u2 (h 1 _ rfl) (h 2 _ rfl))).trans rfl))
theorem dk_21 {code : ByteArray} {pc : Nat} (a : UInt8) (h : DkAt code pc [21, a]) : decode code pc = .ok (.iload a.toNat, 2) := dk_of ((dk_bind (dk_u1 (h 0 _ rfl))).trans ((dk_bind (dk_u1 (h 1 _ rfl))).trans rfl))
theorem dk_26 {code : ByteArray} {pc : Nat} (h : DkAt code pc [26]) : decode code pc = .ok (.iload_n 0, 1) := dk_of ((dk_bind (dk_u1 (h 0 _ rfl))).trans rfl)
theorem dk_27 {code : ByteArray} {pc : Nat} (h : DkAt code pc [27]) : decode code pc = .ok (.iload_n 1, 1) := dk_of ((dk_bind (dk_u1 (h 0 _ rfl))).trans rfl)
theorem dk_28 {code : ByteArray} {pc : Nat} (h : DkAt code pc [28]) : decode code pc = .ok (.iload_n 2, 1) := dk_of ((dk_bind (dk_u1 (h 0 _ rfl))).trans rfl)
theorem dk_29 {code : ByteArray} {pc : Nat} (h : DkAt code pc [29]) : decode code pc = .ok (.iload_n 3, 1) := dk_of ((dk_bind (dk_u1 (h 0 _ rfl))).trans rfl)
theorem dk_42 {code : ByteArray} {pc : Nat} (h : DkAt code pc [42]) : decode code pc = .ok (.aload_n 0, 1) := dk_of ((dk_bind (dk_u1 (h 0 _ rfl))).trans rfl)
theorem dk_43 {code : ByteArray} {pc : Nat} (h : DkAt code pc [43]) : decode code pc = .ok (.aload_n 1, 1) := dk_of ((dk_bind (dk_u1 (h 0 _ rfl))).trans rfl)
theorem dk_44 {code : ByteArray} {pc : Nat} (h : DkAt code pc [44]) : decode code pc = .ok (.aload_n 2, 1) := dk_of ((dk_bind (dk_u1 (h 0 _ rfl))).trans rfl)
theorem dk_46 {code : ByteArray} {pc : Nat} (h : DkAt code pc [46]) : decode code pc = .ok (.iaload, 1) := dk_of ((dk_bind (dk_u1 (h 0 _ rfl))).trans rfl)
theorem dk_54 {code : ByteArray} {pc : Nat} (a : UInt8) (h : DkAt code pc [54, a]) : decode code pc = .ok (.istore a.toNat, 2) := dk_of ((dk_bind (dk_u1 (h 0 _ rfl))).trans ((dk_bind (dk_u1 (h 1 _ rfl))).trans rfl))
theorem dk_59 {code : ByteArray} {pc : Nat} (h : DkAt code pc [59]) : decode code pc = .ok (.istore_n 0, 1) := dk_of ((dk_bind (dk_u1 (h 0 _ rfl))).trans rfl)
theorem dk_60 {code : ByteArray} {pc : Nat} (h : DkAt code pc [60]) : decode code pc = .ok (.istore_n 1, 1) := dk_of ((dk_bind (dk_u1 (h 0 _ rfl))).trans rfl)
theorem dk_61 {code : ByteArray} {pc : Nat} (h : DkAt code pc [61]) : decode code pc = .ok (.istore_n 2, 1) := dk_of ((dk_bind (dk_u1 (h 0 _ rfl))).trans rfl)
theorem dk_62 {code : ByteArray} {pc : Nat} (h : DkAt code pc [62]) : decode code pc = .ok (.istore_n 3, 1) := dk_of ((dk_bind (dk_u1 (h 0 _ rfl))).trans rfl)
theorem dk_76 {code : ByteArray} {pc : Nat} (h : DkAt code pc [76]) : decode code pc = .ok (.astore_n 1, 1) := dk_of ((dk_bind (dk_u1 (h 0 _ rfl))).trans rfl)
theorem dk_77 {code : ByteArray} {pc : Nat} (h : DkAt code pc [77]) : decode code pc = .ok (.astore_n 2, 1) := dk_of ((dk_bind (dk_u1 (h 0 _ rfl))).trans rfl)
theorem dk_87 {code : ByteArray} {pc : Nat} (h : DkAt code pc [87]) : decode code pc = .ok (.pop, 1) := dk_of ((dk_bind (dk_u1 (h 0 _ rfl))).trans rfl)
theorem dk_89 {code : ByteArray} {pc : Nat} (h : DkAt code pc [89]) : decode code pc = .ok (.dup, 1) := dk_of ((dk_bind (dk_u1 (h 0 _ rfl))).trans rfl)
theorem dk_96 {code : ByteArray} {pc : Nat} (h : DkAt code pc [96]) : decode code pc = .ok (.iadd, 1) := dk_of ((dk_bind (dk_u1 (h 0 _ rfl))).trans rfl)
theorem dk_100 {code : ByteArray} {pc : Nat} (h : DkAt code pc [100]) : decode code pc = .ok (.isub, 1) := dk_of ((dk_bind (dk_u1 (h 0 _ rfl))).trans rfl)
theorem dk_112 {code : ByteArray} {pc : Nat} (h : DkAt code pc [112]) : decode code pc = .ok (.irem, 1) := dk_of ((dk_bind (dk_u1 (h 0 _ rfl))).trans rfl)
theorem dk_120 {code : ByteArray} {pc : Nat} (h : DkAt code pc [120]) : decode code pc = .ok (.ishl, 1) := dk_of ((dk_bind (dk_u1 (h 0 _ rfl))).trans rfl)
theorem dk_124 {code : ByteArray} {pc : Nat} (h : DkAt code pc [124]) : decode code pc = .ok (.iushr, 1) := dk_of ((dk_bind (dk_u1 (h 0 _ rfl))).trans rfl)
theorem dk_126 {code : ByteArray} {pc : Nat} (h : DkAt code pc [126]) : decode code pc = .ok (.iand, 1) := dk_of ((dk_bind (dk_u1 (h 0 _ rfl))).trans rfl)
theorem dk_128 {code : ByteArray} {pc : Nat} (h : DkAt code pc [128]) : decode code pc = .ok (.ior, 1) := dk_of ((dk_bind (dk_u1 (h 0 _ rfl))).trans rfl)
theorem dk_130 {code : ByteArray} {pc : Nat} (h : DkAt code pc [130]) : decode code pc = .ok (.ixor, 1) := dk_of ((dk_bind (dk_u1 (h 0 _ rfl))).trans rfl)
theorem dk_132 {code : ByteArray} {pc : Nat} (a b : UInt8) (h : DkAt code pc [132, a, b]) : decode code pc = .ok (.iinc a.toNat (Reader.signed 8 b.toNat), 3) := dk_of ((dk_bind (dk_u1 (h 0 _ rfl))).trans ((dk_bind (dk_u1 (h 1 _ rfl))).trans ((dk_bind (dk_map (dk_u1 (h 2 _ rfl)))).trans rfl)))
theorem dk_154 {code : ByteArray} {pc : Nat} (a b : UInt8) (h : DkAt code pc [154, a, b]) : decode code pc = .ok (.ifCond .ne (Reader.signed 16 (a.toNat * 256 + b.toNat)), 3) := dk_of ((dk_bind (dk_u1 (h 0 _ rfl))).trans ((dk_bind (dk_map (dk_u2 (h 1 _ rfl) (h 2 _ rfl)))).trans rfl))
theorem dk_157 {code : ByteArray} {pc : Nat} (a b : UInt8) (h : DkAt code pc [157, a, b]) : decode code pc = .ok (.ifCond .gt (Reader.signed 16 (a.toNat * 256 + b.toNat)), 3) := dk_of ((dk_bind (dk_u1 (h 0 _ rfl))).trans ((dk_bind (dk_map (dk_u2 (h 1 _ rfl) (h 2 _ rfl)))).trans rfl))
theorem dk_159 {code : ByteArray} {pc : Nat} (a b : UInt8) (h : DkAt code pc [159, a, b]) : decode code pc = .ok (.if_icmp .eq (Reader.signed 16 (a.toNat * 256 + b.toNat)), 3) := dk_of ((dk_bind (dk_u1 (h 0 _ rfl))).trans ((dk_bind (dk_map (dk_u2 (h 1 _ rfl) (h 2 _ rfl)))).trans rfl))
theorem dk_160 {code : ByteArray} {pc : Nat} (a b : UInt8) (h : DkAt code pc [160, a, b]) : decode code pc = .ok (.if_icmp .ne (Reader.signed 16 (a.toNat * 256 + b.toNat)), 3) := dk_of ((dk_bind (dk_u1 (h 0 _ rfl))).trans ((dk_bind (dk_map (dk_u2 (h 1 _ rfl) (h 2 _ rfl)))).trans rfl))
theorem dk_161 {code : ByteArray} {pc : Nat} (a b : UInt8) (h : DkAt code pc [161, a, b]) : decode code pc = .ok (.if_icmp .lt (Reader.signed 16 (a.toNat * 256 + b.toNat)), 3) := dk_of ((dk_bind (dk_u1 (h 0 _ rfl))).trans ((dk_bind (dk_map (dk_u2 (h 1 _ rfl) (h 2 _ rfl)))).trans rfl))
theorem dk_162 {code : ByteArray} {pc : Nat} (a b : UInt8) (h : DkAt code pc [162, a, b]) : decode code pc = .ok (.if_icmp .ge (Reader.signed 16 (a.toNat * 256 + b.toNat)), 3) := dk_of ((dk_bind (dk_u1 (h 0 _ rfl))).trans ((dk_bind (dk_map (dk_u2 (h 1 _ rfl) (h 2 _ rfl)))).trans rfl))
theorem dk_163 {code : ByteArray} {pc : Nat} (a b : UInt8) (h : DkAt code pc [163, a, b]) : decode code pc = .ok (.if_icmp .gt (Reader.signed 16 (a.toNat * 256 + b.toNat)), 3) := dk_of ((dk_bind (dk_u1 (h 0 _ rfl))).trans ((dk_bind (dk_map (dk_u2 (h 1 _ rfl) (h 2 _ rfl)))).trans rfl))
theorem dk_167 {code : ByteArray} {pc : Nat} (a b : UInt8) (h : DkAt code pc [167, a, b]) : decode code pc = .ok (.goto (Reader.signed 16 (a.toNat * 256 + b.toNat)), 3) := dk_of ((dk_bind (dk_u1 (h 0 _ rfl))).trans ((dk_bind (dk_map (dk_u2 (h 1 _ rfl) (h 2 _ rfl)))).trans rfl))
theorem dk_172 {code : ByteArray} {pc : Nat} (h : DkAt code pc [172]) : decode code pc = .ok (.ireturn, 1) := dk_of ((dk_bind (dk_u1 (h 0 _ rfl))).trans rfl)
theorem dk_177 {code : ByteArray} {pc : Nat} (h : DkAt code pc [177]) : decode code pc = .ok (.return_, 1) := dk_of ((dk_bind (dk_u1 (h 0 _ rfl))).trans rfl)
theorem dk_178 {code : ByteArray} {pc : Nat} (a b : UInt8) (h : DkAt code pc [178, a, b]) : decode code pc = .ok (.getstatic (a.toNat * 256 + b.toNat), 3) := dk_of ((dk_bind (dk_u1 (h 0 _ rfl))).trans ((dk_bind (dk_u2 (h 1 _ rfl) (h 2 _ rfl))).trans rfl))
theorem dk_181 {code : ByteArray} {pc : Nat} (a b : UInt8) (h : DkAt code pc [181, a, b]) : decode code pc = .ok (.putfield (a.toNat * 256 + b.toNat), 3) := dk_of ((dk_bind (dk_u1 (h 0 _ rfl))).trans ((dk_bind (dk_u2 (h 1 _ rfl) (h 2 _ rfl))).trans rfl))
theorem dk_182 {code : ByteArray} {pc : Nat} (a b : UInt8) (h : DkAt code pc [182, a, b]) : decode code pc = .ok (.invokevirtual (a.toNat * 256 + b.toNat), 3) := dk_of ((dk_bind (dk_u1 (h 0 _ rfl))).trans ((dk_bind (dk_u2 (h 1 _ rfl) (h 2 _ rfl))).trans rfl))
theorem dk_183 {code : ByteArray} {pc : Nat} (a b : UInt8) (h : DkAt code pc [183, a, b]) : decode code pc = .ok (.invokespecial (a.toNat * 256 + b.toNat), 3) := dk_of ((dk_bind (dk_u1 (h 0 _ rfl))).trans ((dk_bind (dk_u2 (h 1 _ rfl) (h 2 _ rfl))).trans rfl))
theorem dk_184 {code : ByteArray} {pc : Nat} (a b : UInt8) (h : DkAt code pc [184, a, b]) : decode code pc = .ok (.invokestatic (a.toNat * 256 + b.toNat), 3) := dk_of ((dk_bind (dk_u1 (h 0 _ rfl))).trans ((dk_bind (dk_u2 (h 1 _ rfl) (h 2 _ rfl))).trans rfl))
theorem dk_187 {code : ByteArray} {pc : Nat} (a b : UInt8) (h : DkAt code pc [187, a, b]) : decode code pc = .ok (.new (a.toNat * 256 + b.toNat), 3) := dk_of ((dk_bind (dk_u1 (h 0 _ rfl))).trans ((dk_bind (dk_u2 (h 1 _ rfl) (h 2 _ rfl))).trans rfl))
theorem dk_190 {code : ByteArray} {pc : Nat} (h : DkAt code pc [190]) : decode code pc = .ok (.arraylength, 1) := dk_of ((dk_bind (dk_u1 (h 0 _ rfl))).trans rfl)
theorem dk_191 {code : ByteArray} {pc : Nat} (h : DkAt code pc [191]) : decode code pc = .ok (.athrow, 1) := dk_of ((dk_bind (dk_u1 (h 0 _ rfl))).trans rfl)
/-! java/lang/Object -/
set_option maxRecDepth 100000
def RJ5 : String := "java/lang/Object"
abbrev cJ5_init : ByteArray := object_method_1_code
def yJ5_init : MethodName := ⟨RJ5, "<init>", "()V"⟩
theorem dJ5_init_0 : decode cJ5_init 0 = .ok (.return_, 1) := by decide +kernel
theorem q17 : (Jvm.Cond.instanceMethod ({ cls := "java/lang/Object", name := "<init>", desc := "()V" } : Jvm.MethodName)) ∈ lw_all := lw_g (lw_at lw_m0 15 rfl) rfl
theorem q18 : (Jvm.Cond.code ({ cls := "java/lang/Object", name := "<init>", desc := "()V" } : Jvm.MethodName) object_method_1_code (1 : Nat) (Option.none : Option Jvm.ClassFile.FieldType)) ∈ lw_all := lw_g (lw_at lw_m0 16 rfl) rfl
/-! java/lang/Integer -/
set_option maxRecDepth 100000
def RJ0 : String := "java/lang/Integer"
abbrev cJ0_numberOfLeadingZeros : ByteArray := prog_7_method_47_code
def yJ0_numberOfLeadingZeros : MethodName := ⟨RJ0, "numberOfLeadingZeros", "(I)I"⟩
def dkwJ0_numberOfLeadingZeros_3 : List UInt8 := [5, 124, 59, 27, 26, 4, 124, 100, 172]
abbrev dktJ0_numberOfLeadingZeros_3 : List UInt8 := dkwJ0_numberOfLeadingZeros_3 ++ []
def dkwJ0_numberOfLeadingZeros_2 : List UInt8 := [124, 59, 26, 16, 16, 161, 0, 10, 132, 1, 252, 26, 7, 124, 59, 26, 7, 161, 0, 10, 132, 1, 254, 26]
abbrev dktJ0_numberOfLeadingZeros_2 : List UInt8 := dkwJ0_numberOfLeadingZeros_2 ++ dktJ0_numberOfLeadingZeros_3
def dkwJ0_numberOfLeadingZeros_1 : List UInt8 := [161, 0, 11, 132, 1, 240, 26, 16, 16, 124, 59, 26, 17, 1, 0, 161, 0, 11, 132, 1, 248, 26, 16, 8]
abbrev dktJ0_numberOfLeadingZeros_1 : List UInt8 := dkwJ0_numberOfLeadingZeros_1 ++ dktJ0_numberOfLeadingZeros_2
def dkwJ0_numberOfLeadingZeros_0 : List UInt8 := [26, 157, 0, 14, 26, 154, 0, 8, 16, 32, 167, 0, 4, 3, 172, 16, 31, 60, 26, 19, 1, 8]
abbrev dktJ0_numberOfLeadingZeros_0 : List UInt8 := dkwJ0_numberOfLeadingZeros_0 ++ dktJ0_numberOfLeadingZeros_1
theorem dksJ0_numberOfLeadingZeros_0 : cJ0_numberOfLeadingZeros.data.toList.drop 0 = dktJ0_numberOfLeadingZeros_0 := by decide +kernel
theorem dksJ0_numberOfLeadingZeros_1 : cJ0_numberOfLeadingZeros.data.toList.drop 22 = dktJ0_numberOfLeadingZeros_1 := dk_seg dksJ0_numberOfLeadingZeros_0 22 rfl rfl
theorem dksJ0_numberOfLeadingZeros_2 : cJ0_numberOfLeadingZeros.data.toList.drop 46 = dktJ0_numberOfLeadingZeros_2 := dk_seg dksJ0_numberOfLeadingZeros_1 24 rfl rfl
theorem dksJ0_numberOfLeadingZeros_3 : cJ0_numberOfLeadingZeros.data.toList.drop 70 = dktJ0_numberOfLeadingZeros_3 := dk_seg dksJ0_numberOfLeadingZeros_2 24 rfl rfl
theorem dJ0_numberOfLeadingZeros_0 : decode cJ0_numberOfLeadingZeros 0 = .ok (.iload_n 0, 1) := dk_26 (dk_at dksJ0_numberOfLeadingZeros_0 0 rfl rfl)
theorem dJ0_numberOfLeadingZeros_1 : decode cJ0_numberOfLeadingZeros 1 = .ok (.ifCond .gt 14, 3) := dk_157 0 14 (dk_at dksJ0_numberOfLeadingZeros_0 1 rfl rfl)
theorem dJ0_numberOfLeadingZeros_4 : decode cJ0_numberOfLeadingZeros 4 = .ok (.iload_n 0, 1) := dk_26 (dk_at dksJ0_numberOfLeadingZeros_0 4 rfl rfl)
theorem dJ0_numberOfLeadingZeros_5 : decode cJ0_numberOfLeadingZeros 5 = .ok (.ifCond .ne 8, 3) := dk_154 0 8 (dk_at dksJ0_numberOfLeadingZeros_0 5 rfl rfl)
theorem dJ0_numberOfLeadingZeros_8 : decode cJ0_numberOfLeadingZeros 8 = .ok (.bipush 32, 2) := dk_16 32 (dk_at dksJ0_numberOfLeadingZeros_0 8 rfl rfl)
theorem dJ0_numberOfLeadingZeros_10 : decode cJ0_numberOfLeadingZeros 10 = .ok (.goto 4, 3) := dk_167 0 4 (dk_at dksJ0_numberOfLeadingZeros_0 10 rfl rfl)
theorem dJ0_numberOfLeadingZeros_13 : decode cJ0_numberOfLeadingZeros 13 = .ok (.iconst 0, 1) := dk_3 (dk_at dksJ0_numberOfLeadingZeros_0 13 rfl rfl)
theorem dJ0_numberOfLeadingZeros_14 : decode cJ0_numberOfLeadingZeros 14 = .ok (.ireturn, 1) := dk_172 (dk_at dksJ0_numberOfLeadingZeros_0 14 rfl rfl)
theorem dJ0_numberOfLeadingZeros_15 : decode cJ0_numberOfLeadingZeros 15 = .ok (.bipush 31, 2) := dk_16 31 (dk_at dksJ0_numberOfLeadingZeros_0 15 rfl rfl)
theorem dJ0_numberOfLeadingZeros_17 : decode cJ0_numberOfLeadingZeros 17 = .ok (.istore_n 1, 1) := dk_60 (dk_at dksJ0_numberOfLeadingZeros_0 17 rfl rfl)
theorem dJ0_numberOfLeadingZeros_18 : decode cJ0_numberOfLeadingZeros 18 = .ok (.iload_n 0, 1) := dk_26 (dk_at dksJ0_numberOfLeadingZeros_0 18 rfl rfl)
theorem dJ0_numberOfLeadingZeros_19 : decode cJ0_numberOfLeadingZeros 19 = .ok (.ldc_w 264, 3) := dk_19 1 8 (dk_at dksJ0_numberOfLeadingZeros_0 19 rfl rfl)
theorem dJ0_numberOfLeadingZeros_22 : decode cJ0_numberOfLeadingZeros 22 = .ok (.if_icmp .lt 11, 3) := dk_161 0 11 (dk_at dksJ0_numberOfLeadingZeros_1 0 rfl rfl)
theorem dJ0_numberOfLeadingZeros_25 : decode cJ0_numberOfLeadingZeros 25 = .ok (.iinc 1 (-16), 3) := dk_132 1 240 (dk_at dksJ0_numberOfLeadingZeros_1 3 rfl rfl)
theorem dJ0_numberOfLeadingZeros_28 : decode cJ0_numberOfLeadingZeros 28 = .ok (.iload_n 0, 1) := dk_26 (dk_at dksJ0_numberOfLeadingZeros_1 6 rfl rfl)
theorem dJ0_numberOfLeadingZeros_29 : decode cJ0_numberOfLeadingZeros 29 = .ok (.bipush 16, 2) := dk_16 16 (dk_at dksJ0_numberOfLeadingZeros_1 7 rfl rfl)
theorem dJ0_numberOfLeadingZeros_31 : decode cJ0_numberOfLeadingZeros 31 = .ok (.iushr, 1) := dk_124 (dk_at dksJ0_numberOfLeadingZeros_1 9 rfl rfl)
theorem dJ0_numberOfLeadingZeros_32 : decode cJ0_numberOfLeadingZeros 32 = .ok (.istore_n 0, 1) := dk_59 (dk_at dksJ0_numberOfLeadingZeros_1 10 rfl rfl)
theorem dJ0_numberOfLeadingZeros_33 : decode cJ0_numberOfLeadingZeros 33 = .ok (.iload_n 0, 1) := dk_26 (dk_at dksJ0_numberOfLeadingZeros_1 11 rfl rfl)
theorem dJ0_numberOfLeadingZeros_34 : decode cJ0_numberOfLeadingZeros 34 = .ok (.sipush 256, 3) := dk_17 1 0 (dk_at dksJ0_numberOfLeadingZeros_1 12 rfl rfl)
theorem dJ0_numberOfLeadingZeros_37 : decode cJ0_numberOfLeadingZeros 37 = .ok (.if_icmp .lt 11, 3) := dk_161 0 11 (dk_at dksJ0_numberOfLeadingZeros_1 15 rfl rfl)
theorem dJ0_numberOfLeadingZeros_40 : decode cJ0_numberOfLeadingZeros 40 = .ok (.iinc 1 (-8), 3) := dk_132 1 248 (dk_at dksJ0_numberOfLeadingZeros_1 18 rfl rfl)
theorem dJ0_numberOfLeadingZeros_43 : decode cJ0_numberOfLeadingZeros 43 = .ok (.iload_n 0, 1) := dk_26 (dk_at dksJ0_numberOfLeadingZeros_1 21 rfl rfl)
theorem dJ0_numberOfLeadingZeros_44 : decode cJ0_numberOfLeadingZeros 44 = .ok (.bipush 8, 2) := dk_16 8 (dk_at dksJ0_numberOfLeadingZeros_1 22 rfl rfl)
theorem dJ0_numberOfLeadingZeros_46 : decode cJ0_numberOfLeadingZeros 46 = .ok (.iushr, 1) := dk_124 (dk_at dksJ0_numberOfLeadingZeros_2 0 rfl rfl)
theorem dJ0_numberOfLeadingZeros_47 : decode cJ0_numberOfLeadingZeros 47 = .ok (.istore_n 0, 1) := dk_59 (dk_at dksJ0_numberOfLeadingZeros_2 1 rfl rfl)
theorem dJ0_numberOfLeadingZeros_48 : decode cJ0_numberOfLeadingZeros 48 = .ok (.iload_n 0, 1) := dk_26 (dk_at dksJ0_numberOfLeadingZeros_2 2 rfl rfl)
theorem dJ0_numberOfLeadingZeros_49 : decode cJ0_numberOfLeadingZeros 49 = .ok (.bipush 16, 2) := dk_16 16 (dk_at dksJ0_numberOfLeadingZeros_2 3 rfl rfl)
theorem dJ0_numberOfLeadingZeros_51 : decode cJ0_numberOfLeadingZeros 51 = .ok (.if_icmp .lt 10, 3) := dk_161 0 10 (dk_at dksJ0_numberOfLeadingZeros_2 5 rfl rfl)
theorem dJ0_numberOfLeadingZeros_54 : decode cJ0_numberOfLeadingZeros 54 = .ok (.iinc 1 (-4), 3) := dk_132 1 252 (dk_at dksJ0_numberOfLeadingZeros_2 8 rfl rfl)
theorem dJ0_numberOfLeadingZeros_57 : decode cJ0_numberOfLeadingZeros 57 = .ok (.iload_n 0, 1) := dk_26 (dk_at dksJ0_numberOfLeadingZeros_2 11 rfl rfl)
theorem dJ0_numberOfLeadingZeros_58 : decode cJ0_numberOfLeadingZeros 58 = .ok (.iconst 4, 1) := dk_7 (dk_at dksJ0_numberOfLeadingZeros_2 12 rfl rfl)
theorem dJ0_numberOfLeadingZeros_59 : decode cJ0_numberOfLeadingZeros 59 = .ok (.iushr, 1) := dk_124 (dk_at dksJ0_numberOfLeadingZeros_2 13 rfl rfl)
theorem dJ0_numberOfLeadingZeros_60 : decode cJ0_numberOfLeadingZeros 60 = .ok (.istore_n 0, 1) := dk_59 (dk_at dksJ0_numberOfLeadingZeros_2 14 rfl rfl)
theorem dJ0_numberOfLeadingZeros_61 : decode cJ0_numberOfLeadingZeros 61 = .ok (.iload_n 0, 1) := dk_26 (dk_at dksJ0_numberOfLeadingZeros_2 15 rfl rfl)
theorem dJ0_numberOfLeadingZeros_62 : decode cJ0_numberOfLeadingZeros 62 = .ok (.iconst 4, 1) := dk_7 (dk_at dksJ0_numberOfLeadingZeros_2 16 rfl rfl)
theorem dJ0_numberOfLeadingZeros_63 : decode cJ0_numberOfLeadingZeros 63 = .ok (.if_icmp .lt 10, 3) := dk_161 0 10 (dk_at dksJ0_numberOfLeadingZeros_2 17 rfl rfl)
theorem dJ0_numberOfLeadingZeros_66 : decode cJ0_numberOfLeadingZeros 66 = .ok (.iinc 1 (-2), 3) := dk_132 1 254 (dk_at dksJ0_numberOfLeadingZeros_2 20 rfl rfl)
theorem dJ0_numberOfLeadingZeros_69 : decode cJ0_numberOfLeadingZeros 69 = .ok (.iload_n 0, 1) := dk_26 (dk_at dksJ0_numberOfLeadingZeros_2 23 rfl rfl)
theorem dJ0_numberOfLeadingZeros_70 : decode cJ0_numberOfLeadingZeros 70 = .ok (.iconst 2, 1) := dk_5 (dk_at dksJ0_numberOfLeadingZeros_3 0 rfl rfl)
theorem dJ0_numberOfLeadingZeros_71 : decode cJ0_numberOfLeadingZeros 71 = .ok (.iushr, 1) := dk_124 (dk_at dksJ0_numberOfLeadingZeros_3 1 rfl rfl)
theorem dJ0_numberOfLeadingZeros_72 : decode cJ0_numberOfLeadingZeros 72 = .ok (.istore_n 0, 1) := dk_59 (dk_at dksJ0_numberOfLeadingZeros_3 2 rfl rfl)
theorem dJ0_numberOfLeadingZeros_73 : decode cJ0_numberOfLeadingZeros 73 = .ok (.iload_n 1, 1) := dk_27 (dk_at dksJ0_numberOfLeadingZeros_3 3 rfl rfl)
theorem dJ0_numberOfLeadingZeros_74 : decode cJ0_numberOfLeadingZeros 74 = .ok (.iload_n 0, 1) := dk_26 (dk_at dksJ0_numberOfLeadingZeros_3 4 rfl rfl)
theorem dJ0_numberOfLeadingZeros_75 : decode cJ0_numberOfLeadingZeros 75 = .ok (.iconst 1, 1) := dk_4 (dk_at dksJ0_numberOfLeadingZeros_3 5 rfl rfl)
theorem dJ0_numberOfLeadingZeros_76 : decode cJ0_numberOfLeadingZeros 76 = .ok (.iushr, 1) := dk_124 (dk_at dksJ0_numberOfLeadingZeros_3 6 rfl rfl)
theorem dJ0_numberOfLeadingZeros_77 : decode cJ0_numberOfLeadingZeros 77 = .ok (.isub, 1) := dk_100 (dk_at dksJ0_numberOfLeadingZeros_3 7 rfl rfl)
theorem dJ0_numberOfLeadingZeros_78 : decode cJ0_numberOfLeadingZeros 78 = .ok (.ireturn, 1) := dk_172 (dk_at dksJ0_numberOfLeadingZeros_3 8 rfl rfl)
theorem q6 : (Jvm.Cond.initialized "java/lang/Integer") ∈ lw_all := lw_g (lw_at lw_m0 4 rfl) rfl
theorem q28 : (Jvm.Cond.static ({ cls := "java/lang/Integer", name := "numberOfLeadingZeros", desc := "(I)I" } : Jvm.MethodName)) ∈ lw_all := lw_g (lw_at lw_m0 26 rfl) rfl
theorem q29 : (Jvm.Cond.code ({ cls := "java/lang/Integer", name := "numberOfLeadingZeros", desc := "(I)I" } : Jvm.MethodName) prog_7_method_47_code (2 : Nat) (Option.some Jvm.ClassFile.FieldType.int)) ∈ lw_all := lw_g (lw_at lw_m0 27 rfl) rfl
theorem q30 : (Jvm.Cond.constant "java/lang/Integer" (264 : Nat) (65536 : Int32)) ∈ lw_all := lw_g (lw_at lw_m0 28 rfl) rfl
/-! MatrixUtil -/
set_option maxRecDepth 100000
def RX2 : String := "MatrixUtil"
abbrev cX2_findMSBSet : ByteArray := prog_4_method_1_code
def yX2_findMSBSet : MethodName := ⟨RX2, "findMSBSet", "(I)I"⟩
def dkwX2_findMSBSet_0 : List UInt8 := [16, 32, 26, 184, 0, 1, 100, 172]
abbrev dktX2_findMSBSet_0 : List UInt8 := dkwX2_findMSBSet_0 ++ []
theorem dksX2_findMSBSet_0 : cX2_findMSBSet.data.toList.drop 0 = dktX2_findMSBSet_0 := by decide +kernel
theorem dX2_findMSBSet_0 : decode cX2_findMSBSet 0 = .ok (.bipush 32, 2) := dk_16 32 (dk_at dksX2_findMSBSet_0 0 rfl rfl)
theorem dX2_findMSBSet_2 : decode cX2_findMSBSet 2 = .ok (.iload_n 0, 1) := dk_26 (dk_at dksX2_findMSBSet_0 2 rfl rfl)
theorem dX2_findMSBSet_3 : decode cX2_findMSBSet 3 = .ok (.invokestatic 1, 3) := dk_184 0 1 (dk_at dksX2_findMSBSet_0 3 rfl rfl)
theorem dX2_findMSBSet_6 : decode cX2_findMSBSet 6 = .ok (.isub, 1) := dk_100 (dk_at dksX2_findMSBSet_0 6 rfl rfl)
theorem dX2_findMSBSet_7 : decode cX2_findMSBSet 7 = .ok (.ireturn, 1) := dk_172 (dk_at dksX2_findMSBSet_0 7 rfl rfl)
abbrev cX2_calculateBCHCode : ByteArray := prog_4_method_2_code
def yX2_calculateBCHCode : MethodName := ⟨RX2, "calculateBCHCode", "(II)I"⟩
def dkwX2_calculateBCHCode_2 : List UInt8 := [172]
abbrev dktX2_calculateBCHCode_2 : List UInt8 := dkwX2_calculateBCHCode_2 ++ []
def dkwX2_calculateBCHCode_1 : List UInt8 := [59, 26, 184, 0, 15, 28, 161, 0, 17, 26, 27, 26, 184, 0, 15, 28, 100, 120, 130, 59, 167, 255, 237, 26]
abbrev dktX2_calculateBCHCode_1 : List UInt8 := dkwX2_calculateBCHCode_1 ++ dktX2_calculateBCHCode_2
def dkwX2_calculateBCHCode_0 : List UInt8 := [27, 154, 0, 13, 187, 0, 7, 89, 18, 9, 183, 0, 11, 191, 27, 184, 0, 15, 61, 26, 28, 4, 100, 120]
abbrev dktX2_calculateBCHCode_0 : List UInt8 := dkwX2_calculateBCHCode_0 ++ dktX2_calculateBCHCode_1
theorem dksX2_calculateBCHCode_0 : cX2_calculateBCHCode.data.toList.drop 0 = dktX2_calculateBCHCode_0 := by decide +kernel
theorem dksX2_calculateBCHCode_1 : cX2_calculateBCHCode.data.toList.drop 24 = dktX2_calculateBCHCode_1 := dk_seg dksX2_calculateBCHCode_0 24 rfl rfl
theorem dksX2_calculateBCHCode_2 : cX2_calculateBCHCode.data.toList.drop 48 = dktX2_calculateBCHCode_2 := dk_seg dksX2_calculateBCHCode_1 24 rfl rfl
theorem dX2_calculateBCHCode_0 : decode cX2_calculateBCHCode 0 = .ok (.iload_n 1, 1) := dk_27 (dk_at dksX2_calculateBCHCode_0 0 rfl rfl)
theorem dX2_calculateBCHCode_1 : decode cX2_calculateBCHCode 1 = .ok (.ifCond .ne 13, 3) := dk_154 0 13 (dk_at dksX2_calculateBCHCode_0 1 rfl rfl)
theorem dX2_calculateBCHCode_4 : decode cX2_calculateBCHCode 4 = .ok (.new 7, 3) := dk_187 0 7 (dk_at dksX2_calculateBCHCode_0 4 rfl rfl)
theorem dX2_calculateBCHCode_7 : decode cX2_calculateBCHCode 7 = .ok (.dup, 1) := dk_89 (dk_at dksX2_calculateBCHCode_0 7 rfl rfl)
theorem dX2_calculateBCHCode_8 : decode cX2_calculateBCHCode 8 = .ok (.ldc 9, 2) := dk_18 9 (dk_at dksX2_calculateBCHCode_0 8 rfl rfl)
theorem dX2_calculateBCHCode_10 : decode cX2_calculateBCHCode 10 = .ok (.invokespecial 11, 3) := dk_183 0 11 (dk_at dksX2_calculateBCHCode_0 10 rfl rfl)
theorem dX2_calculateBCHCode_13 : decode cX2_calculateBCHCode 13 = .ok (.athrow, 1) := dk_191 (dk_at dksX2_calculateBCHCode_0 13 rfl rfl)
theorem dX2_calculateBCHCode_14 : decode cX2_calculateBCHCode 14 = .ok (.iload_n 1, 1) := dk_27 (dk_at dksX2_calculateBCHCode_0 14 rfl rfl)
theorem dX2_calculateBCHCode_15 : decode cX2_calculateBCHCode 15 = .ok (.invokestatic 15, 3) := dk_184 0 15 (dk_at dksX2_calculateBCHCode_0 15 rfl rfl)
theorem dX2_calculateBCHCode_18 : decode cX2_calculateBCHCode 18 = .ok (.istore_n 2, 1) := dk_61 (dk_at dksX2_calculateBCHCode_0 18 rfl rfl)
theorem dX2_calculateBCHCode_19 : decode cX2_calculateBCHCode 19 = .ok (.iload_n 0, 1) := dk_26 (dk_at dksX2_calculateBCHCode_0 19 rfl rfl)
theorem dX2_calculateBCHCode_20 : decode cX2_calculateBCHCode 20 = .ok (.iload_n 2, 1) := dk_28 (dk_at dksX2_calculateBCHCode_0 20 rfl rfl)
theorem dX2_calculateBCHCode_21 : decode cX2_calculateBCHCode 21 = .ok (.iconst 1, 1) := dk_4 (dk_at dksX2_calculateBCHCode_0 21 rfl rfl)
theorem dX2_calculateBCHCode_22 : decode cX2_calculateBCHCode 22 = .ok (.isub, 1) := dk_100 (dk_at dksX2_calculateBCHCode_0 22 rfl rfl)
theorem dX2_calculateBCHCode_23 : decode cX2_calculateBCHCode 23 = .ok (.ishl, 1) := dk_120 (dk_at dksX2_calculateBCHCode_0 23 rfl rfl)
theorem dX2_calculateBCHCode_24 : decode cX2_calculateBCHCode 24 = .ok (.istore_n 0, 1) := dk_59 (dk_at dksX2_calculateBCHCode_1 0 rfl rfl)
theorem dX2_calculateBCHCode_25 : decode cX2_calculateBCHCode 25 = .ok (.iload_n 0, 1) := dk_26 (dk_at dksX2_calculateBCHCode_1 1 rfl rfl)
theorem dX2_calculateBCHCode_26 : decode cX2_calculateBCHCode 26 = .ok (.invokestatic 15, 3) := dk_184 0 15 (dk_at dksX2_calculateBCHCode_1 2 rfl rfl)
theorem dX2_calculateBCHCode_29 : decode cX2_calculateBCHCode 29 = .ok (.iload_n 2, 1) := dk_28 (dk_at dksX2_calculateBCHCode_1 5 rfl rfl)
theorem dX2_calculateBCHCode_30 : decode cX2_calculateBCHCode 30 = .ok (.if_icmp .lt 17, 3) := dk_161 0 17 (dk_at dksX2_calculateBCHCode_1 6 rfl rfl)
theorem dX2_calculateBCHCode_33 : decode cX2_calculateBCHCode 33 = .ok (.iload_n 0, 1) := dk_26 (dk_at dksX2_calculateBCHCode_1 9 rfl rfl)
theorem dX2_calculateBCHCode_34 : decode cX2_calculateBCHCode 34 = .ok (.iload_n 1, 1) := dk_27 (dk_at dksX2_calculateBCHCode_1 10 rfl rfl)
theorem dX2_calculateBCHCode_35 : decode cX2_calculateBCHCode 35 = .ok (.iload_n 0, 1) := dk_26 (dk_at dksX2_calculateBCHCode_1 11 rfl rfl)
theorem dX2_calculateBCHCode_36 : decode cX2_calculateBCHCode 36 = .ok (.invokestatic 15, 3) := dk_184 0 15 (dk_at dksX2_calculateBCHCode_1 12 rfl rfl)
theorem dX2_calculateBCHCode_39 : decode cX2_calculateBCHCode 39 = .ok (.iload_n 2, 1) := dk_28 (dk_at dksX2_calculateBCHCode_1 15 rfl rfl)
theorem dX2_calculateBCHCode_40 : decode cX2_calculateBCHCode 40 = .ok (.isub, 1) := dk_100 (dk_at dksX2_calculateBCHCode_1 16 rfl rfl)
theorem dX2_calculateBCHCode_41 : decode cX2_calculateBCHCode 41 = .ok (.ishl, 1) := dk_120 (dk_at dksX2_calculateBCHCode_1 17 rfl rfl)
theorem dX2_calculateBCHCode_42 : decode cX2_calculateBCHCode 42 = .ok (.ixor, 1) := dk_130 (dk_at dksX2_calculateBCHCode_1 18 rfl rfl)
theorem dX2_calculateBCHCode_43 : decode cX2_calculateBCHCode 43 = .ok (.istore_n 0, 1) := dk_59 (dk_at dksX2_calculateBCHCode_1 19 rfl rfl)
theorem dX2_calculateBCHCode_44 : decode cX2_calculateBCHCode 44 = .ok (.goto (-19), 3) := dk_167 255 237 (dk_at dksX2_calculateBCHCode_1 20 rfl rfl)
theorem dX2_calculateBCHCode_47 : decode cX2_calculateBCHCode 47 = .ok (.iload_n 0, 1) := dk_26 (dk_at dksX2_calculateBCHCode_1 23 rfl rfl)
theorem dX2_calculateBCHCode_48 : decode cX2_calculateBCHCode 48 = .ok (.ireturn, 1) := dk_172 (dk_at dksX2_calculateBCHCode_2 0 rfl rfl)
theorem q5 : (Jvm.Cond.initialized "MatrixUtil") ∈ lw_all := lw_g (lw_at lw_m0 3 rfl) rfl
theorem q25 : (Jvm.Cond.static ({ cls := "MatrixUtil", name := "findMSBSet", desc := "(I)I" } : Jvm.MethodName)) ∈ lw_all := lw_g (lw_at lw_m0 23 rfl) rfl
theorem q26 : (Jvm.Cond.code ({ cls := "MatrixUtil", name := "findMSBSet", desc := "(I)I" } : Jvm.MethodName) prog_4_method_1_code (1 : Nat) (Option.some Jvm.ClassFile.FieldType.int)) ∈ lw_all := lw_g (lw_at lw_m0 24 rfl) rfl
theorem q27 : (Jvm.Cond.methodLink "MatrixUtil" (1 : Nat) ({ cls := "java/lang/Integer", name := "numberOfLeadingZeros", desc := "(I)I" } : Jvm.MethodName)) ∈ lw_all := lw_g (lw_at lw_m0 25 rfl) rfl
theorem q37 : (Jvm.Cond.static ({ cls := "MatrixUtil", name := "calculateBCHCode", desc := "(II)I" } : Jvm.MethodName)) ∈ lw_all := lw_g (lw_at lw_m0 35 rfl) rfl
theorem q38 : (Jvm.Cond.code ({ cls := "MatrixUtil", name := "calculateBCHCode", desc := "(II)I" } : Jvm.MethodName) prog_4_method_2_code (3 : Nat) (Option.some Jvm.ClassFile.FieldType.int)) ∈ lw_all := lw_g (lw_at lw_m0 36 rfl) rfl
theorem q39 : (Jvm.Cond.classLink "MatrixUtil" (7 : Nat) "java/lang/IllegalArgumentException") ∈ lw_all := lw_g (lw_at lw_m0 37 rfl) rfl
theorem q78 : (Jvm.Cond.stringRef "MatrixUtil" (9 : Nat) "0 polynomial") ∈ lw_tbl := lw_at lw_m0 76 rfl
theorem q79 : (Jvm.Cond.methodLink "MatrixUtil" (11 : Nat) ({ cls := "java/lang/IllegalArgumentException", name := "<init>", desc := "(Ljava/lang/String;)V" } : Jvm.MethodName)) ∈ lw_all := lw_g (lw_at lw_m0 77 rfl) rfl
theorem q105 : (Jvm.Cond.methodLink "MatrixUtil" (15 : Nat) ({ cls := "MatrixUtil", name := "findMSBSet", desc := "(I)I" } : Jvm.MethodName)) ∈ lw_all := lw_g (lw_at lw_m0 103 rfl) rfl
/-! BchDesk -/
set_option maxRecDepth 100000
def RX0 : String := "BchDesk"
abbrev cX0_init : ByteArray := prog_1_method_1_code
def yX0_init : MethodName := ⟨RX0, "<init>", "()V"⟩
theorem dX0_init_0 : decode cX0_init 0 = .ok (.aload_n 0, 1) := by decide +kernel
theorem dX0_init_1 : decode cX0_init 1 = .ok (.invokespecial 1, 3) := by decide +kernel
theorem dX0_init_4 : decode cX0_init 4 = .ok (.return_, 1) := by decide +kernel
abbrev cX0_highest : ByteArray := prog_1_method_2_code
def yX0_highest : MethodName := ⟨RX0, "highest", "(I)I"⟩
theorem dX0_highest_0 : decode cX0_highest 0 = .ok (.iload_n 1, 1) := by decide +kernel
theorem dX0_highest_1 : decode cX0_highest 1 = .ok (.invokestatic 7, 3) := by decide +kernel
theorem dX0_highest_4 : decode cX0_highest 4 = .ok (.ireturn, 1) := by decide +kernel
abbrev cX0_rest : ByteArray := prog_1_method_3_code
def yX0_rest : MethodName := ⟨RX0, "rest", "(II)I"⟩
def dkwX0_rest_0 : List UInt8 := [5, 28, 17, 31, 255, 126, 96, 62, 27, 18, 13, 126, 29, 184, 0, 14, 172]
abbrev dktX0_rest_0 : List UInt8 := dkwX0_rest_0 ++ []
theorem dksX0_rest_0 : cX0_rest.data.toList.drop 0 = dktX0_rest_0 := by decide +kernel
theorem dX0_rest_0 : decode cX0_rest 0 = .ok (.iconst 2, 1) := dk_5 (dk_at dksX0_rest_0 0 rfl rfl)
theorem dX0_rest_1 : decode cX0_rest 1 = .ok (.iload_n 2, 1) := dk_28 (dk_at dksX0_rest_0 1 rfl rfl)
theorem dX0_rest_2 : decode cX0_rest 2 = .ok (.sipush 8191, 3) := dk_17 31 255 (dk_at dksX0_rest_0 2 rfl rfl)
theorem dX0_rest_5 : decode cX0_rest 5 = .ok (.iand, 1) := dk_126 (dk_at dksX0_rest_0 5 rfl rfl)
theorem dX0_rest_6 : decode cX0_rest 6 = .ok (.iadd, 1) := dk_96 (dk_at dksX0_rest_0 6 rfl rfl)
theorem dX0_rest_7 : decode cX0_rest 7 = .ok (.istore_n 3, 1) := dk_62 (dk_at dksX0_rest_0 7 rfl rfl)
theorem dX0_rest_8 : decode cX0_rest 8 = .ok (.iload_n 1, 1) := dk_27 (dk_at dksX0_rest_0 8 rfl rfl)
theorem dX0_rest_9 : decode cX0_rest 9 = .ok (.ldc 13, 2) := dk_18 13 (dk_at dksX0_rest_0 9 rfl rfl)
theorem dX0_rest_11 : decode cX0_rest 11 = .ok (.iand, 1) := dk_126 (dk_at dksX0_rest_0 11 rfl rfl)
theorem dX0_rest_12 : decode cX0_rest 12 = .ok (.iload_n 3, 1) := dk_29 (dk_at dksX0_rest_0 12 rfl rfl)
theorem dX0_rest_13 : decode cX0_rest 13 = .ok (.invokestatic 14, 3) := dk_184 0 14 (dk_at dksX0_rest_0 13 rfl rfl)
theorem dX0_rest_16 : decode cX0_rest 16 = .ok (.ireturn, 1) := dk_172 (dk_at dksX0_rest_0 16 rfl rfl)
abbrev cX0_format : ByteArray := prog_1_method_4_code
def yX0_format : MethodName := ⟨RX0, "format", "(I)I"⟩
def dkwX0_format_0 : List UInt8 := [27, 16, 31, 126, 61, 28, 16, 10, 120, 28, 17, 5, 55, 184, 0, 14, 128, 17, 84, 18, 130, 172]
abbrev dktX0_format_0 : List UInt8 := dkwX0_format_0 ++ []
theorem dksX0_format_0 : cX0_format.data.toList.drop 0 = dktX0_format_0 := by decide +kernel
theorem dX0_format_0 : decode cX0_format 0 = .ok (.iload_n 1, 1) := dk_27 (dk_at dksX0_format_0 0 rfl rfl)
theorem dX0_format_1 : decode cX0_format 1 = .ok (.bipush 31, 2) := dk_16 31 (dk_at dksX0_format_0 1 rfl rfl)
theorem dX0_format_3 : decode cX0_format 3 = .ok (.iand, 1) := dk_126 (dk_at dksX0_format_0 3 rfl rfl)
theorem dX0_format_4 : decode cX0_format 4 = .ok (.istore_n 2, 1) := dk_61 (dk_at dksX0_format_0 4 rfl rfl)
theorem dX0_format_5 : decode cX0_format 5 = .ok (.iload_n 2, 1) := dk_28 (dk_at dksX0_format_0 5 rfl rfl)
theorem dX0_format_6 : decode cX0_format 6 = .ok (.bipush 10, 2) := dk_16 10 (dk_at dksX0_format_0 6 rfl rfl)
theorem dX0_format_8 : decode cX0_format 8 = .ok (.ishl, 1) := dk_120 (dk_at dksX0_format_0 8 rfl rfl)
theorem dX0_format_9 : decode cX0_format 9 = .ok (.iload_n 2, 1) := dk_28 (dk_at dksX0_format_0 9 rfl rfl)
theorem dX0_format_10 : decode cX0_format 10 = .ok (.sipush 1335, 3) := dk_17 5 55 (dk_at dksX0_format_0 10 rfl rfl)
theorem dX0_format_13 : decode cX0_format 13 = .ok (.invokestatic 14, 3) := dk_184 0 14 (dk_at dksX0_format_0 13 rfl rfl)
theorem dX0_format_16 : decode cX0_format 16 = .ok (.ior, 1) := dk_128 (dk_at dksX0_format_0 16 rfl rfl)
theorem dX0_format_17 : decode cX0_format 17 = .ok (.sipush 21522, 3) := dk_17 84 18 (dk_at dksX0_format_0 17 rfl rfl)
theorem dX0_format_20 : decode cX0_format 20 = .ok (.ixor, 1) := dk_130 (dk_at dksX0_format_0 20 rfl rfl)
theorem dX0_format_21 : decode cX0_format 21 = .ok (.ireturn, 1) := dk_172 (dk_at dksX0_format_0 21 rfl rfl)
abbrev cX0_version : ByteArray := prog_1_method_5_code
def yX0_version : MethodName := ⟨RX0, "version", "(I)I"⟩
def dkwX0_version_0 : List UInt8 := [16, 7, 27, 18, 18, 126, 16, 34, 112, 96, 61, 28, 16, 12, 120, 28, 17, 31, 37, 184, 0, 14, 128, 172]
abbrev dktX0_version_0 : List UInt8 := dkwX0_version_0 ++ []
theorem dksX0_version_0 : cX0_version.data.toList.drop 0 = dktX0_version_0 := by decide +kernel
theorem dX0_version_0 : decode cX0_version 0 = .ok (.bipush 7, 2) := dk_16 7 (dk_at dksX0_version_0 0 rfl rfl)
theorem dX0_version_2 : decode cX0_version 2 = .ok (.iload_n 1, 1) := dk_27 (dk_at dksX0_version_0 2 rfl rfl)
theorem dX0_version_3 : decode cX0_version 3 = .ok (.ldc 18, 2) := dk_18 18 (dk_at dksX0_version_0 3 rfl rfl)
theorem dX0_version_5 : decode cX0_version 5 = .ok (.iand, 1) := dk_126 (dk_at dksX0_version_0 5 rfl rfl)
theorem dX0_version_6 : decode cX0_version 6 = .ok (.bipush 34, 2) := dk_16 34 (dk_at dksX0_version_0 6 rfl rfl)
theorem dX0_version_8 : decode cX0_version 8 = .ok (.irem, 1) := dk_112 (dk_at dksX0_version_0 8 rfl rfl)
theorem dX0_version_9 : decode cX0_version 9 = .ok (.iadd, 1) := dk_96 (dk_at dksX0_version_0 9 rfl rfl)
theorem dX0_version_10 : decode cX0_version 10 = .ok (.istore_n 2, 1) := dk_61 (dk_at dksX0_version_0 10 rfl rfl)
theorem dX0_version_11 : decode cX0_version 11 = .ok (.iload_n 2, 1) := dk_28 (dk_at dksX0_version_0 11 rfl rfl)
theorem dX0_version_12 : decode cX0_version 12 = .ok (.bipush 12, 2) := dk_16 12 (dk_at dksX0_version_0 12 rfl rfl)
theorem dX0_version_14 : decode cX0_version 14 = .ok (.ishl, 1) := dk_120 (dk_at dksX0_version_0 14 rfl rfl)
theorem dX0_version_15 : decode cX0_version 15 = .ok (.iload_n 2, 1) := dk_28 (dk_at dksX0_version_0 15 rfl rfl)
theorem dX0_version_16 : decode cX0_version 16 = .ok (.sipush 7973, 3) := dk_17 31 37 (dk_at dksX0_version_0 16 rfl rfl)
theorem dX0_version_19 : decode cX0_version 19 = .ok (.invokestatic 14, 3) := dk_184 0 14 (dk_at dksX0_version_0 19 rfl rfl)
theorem dX0_version_22 : decode cX0_version 22 = .ok (.ior, 1) := dk_128 (dk_at dksX0_version_0 22 rfl rfl)
theorem dX0_version_23 : decode cX0_version 23 = .ok (.ireturn, 1) := dk_172 (dk_at dksX0_version_0 23 rfl rfl)
theorem q3 : (Jvm.Cond.initialized "BchDesk") ∈ lw_all := lw_g (lw_at lw_m0 1 rfl) rfl
theorem q12 : (Jvm.Cond.instantiable "BchDesk" (0 : Nat)) ∈ lw_all := lw_g (lw_at lw_m0 10 rfl) rfl
theorem q14 : (Jvm.Cond.instanceMethod ({ cls := "BchDesk", name := "<init>", desc := "()V" } : Jvm.MethodName)) ∈ lw_all := lw_g (lw_at lw_m0 12 rfl) rfl
theorem q15 : (Jvm.Cond.code ({ cls := "BchDesk", name := "<init>", desc := "()V" } : Jvm.MethodName) prog_1_method_1_code (1 : Nat) (Option.none : Option Jvm.ClassFile.FieldType)) ∈ lw_all := lw_g (lw_at lw_m0 13 rfl) rfl
theorem q16 : (Jvm.Cond.methodLink "BchDesk" (1 : Nat) ({ cls := "java/lang/Object", name := "<init>", desc := "()V" } : Jvm.MethodName)) ∈ lw_all := lw_g (lw_at lw_m0 14 rfl) rfl
theorem q19 : (Jvm.Cond.superclass "BchDesk" "java/lang/Object") ∈ lw_all := lw_g (lw_at lw_m0 17 rfl) rfl
theorem q21 : (Jvm.Cond.instanceMethod ({ cls := "BchDesk", name := "highest", desc := "(I)I" } : Jvm.MethodName)) ∈ lw_all := lw_g (lw_at lw_m0 19 rfl) rfl
theorem q22 : (Jvm.Cond.selects "BchDesk" ({ cls := "BchDesk", name := "highest", desc := "(I)I" } : Jvm.MethodName) ({ cls := "BchDesk", name := "highest", desc := "(I)I" } : Jvm.MethodName)) ∈ lw_all := lw_g (lw_at lw_m0 20 rfl) rfl
theorem q23 : (Jvm.Cond.code ({ cls := "BchDesk", name := "highest", desc := "(I)I" } : Jvm.MethodName) prog_1_method_2_code (2 : Nat) (Option.some Jvm.ClassFile.FieldType.int)) ∈ lw_all := lw_g (lw_at lw_m0 21 rfl) rfl
theorem q24 : (Jvm.Cond.methodLink "BchDesk" (7 : Nat) ({ cls := "MatrixUtil", name := "findMSBSet", desc := "(I)I" } : Jvm.MethodName)) ∈ lw_all := lw_g (lw_at lw_m0 22 rfl) rfl
theorem q32 : (Jvm.Cond.instanceMethod ({ cls := "BchDesk", name := "rest", desc := "(II)I" } : Jvm.MethodName)) ∈ lw_all := lw_g (lw_at lw_m0 30 rfl) rfl
theorem q33 : (Jvm.Cond.selects "BchDesk" ({ cls := "BchDesk", name := "rest", desc := "(II)I" } : Jvm.MethodName) ({ cls := "BchDesk", name := "rest", desc := "(II)I" } : Jvm.MethodName)) ∈ lw_all := lw_g (lw_at lw_m0 31 rfl) rfl
theorem q34 : (Jvm.Cond.code ({ cls := "BchDesk", name := "rest", desc := "(II)I" } : Jvm.MethodName) prog_1_method_3_code (4 : Nat) (Option.some Jvm.ClassFile.FieldType.int)) ∈ lw_all := lw_g (lw_at lw_m0 32 rfl) rfl
theorem q35 : (Jvm.Cond.constant "BchDesk" (13 : Nat) (65535 : Int32)) ∈ lw_all := lw_g (lw_at lw_m0 33 rfl) rfl
theorem q36 : (Jvm.Cond.methodLink "BchDesk" (14 : Nat) ({ cls := "MatrixUtil", name := "calculateBCHCode", desc := "(II)I" } : Jvm.MethodName)) ∈ lw_all := lw_g (lw_at lw_m0 34 rfl) rfl
theorem q107 : (Jvm.Cond.instanceMethod ({ cls := "BchDesk", name := "format", desc := "(I)I" } : Jvm.MethodName)) ∈ lw_all := lw_g (lw_at lw_m0 105 rfl) rfl
theorem q108 : (Jvm.Cond.selects "BchDesk" ({ cls := "BchDesk", name := "format", desc := "(I)I" } : Jvm.MethodName) ({ cls := "BchDesk", name := "format", desc := "(I)I" } : Jvm.MethodName)) ∈ lw_all := lw_g (lw_at lw_m0 106 rfl) rfl
theorem q109 : (Jvm.Cond.code ({ cls := "BchDesk", name := "format", desc := "(I)I" } : Jvm.MethodName) prog_1_method_4_code (3 : Nat) (Option.some Jvm.ClassFile.FieldType.int)) ∈ lw_all := lw_g (lw_at lw_m0 107 rfl) rfl
theorem q111 : (Jvm.Cond.instanceMethod ({ cls := "BchDesk", name := "version", desc := "(I)I" } : Jvm.MethodName)) ∈ lw_all := lw_g (lw_at lw_m0 109 rfl) rfl
theorem q112 : (Jvm.Cond.selects "BchDesk" ({ cls := "BchDesk", name := "version", desc := "(I)I" } : Jvm.MethodName) ({ cls := "BchDesk", name := "version", desc := "(I)I" } : Jvm.MethodName)) ∈ lw_all := lw_g (lw_at lw_m0 110 rfl) rfl
theorem q113 : (Jvm.Cond.code ({ cls := "BchDesk", name := "version", desc := "(I)I" } : Jvm.MethodName) prog_1_method_5_code (3 : Nat) (Option.some Jvm.ClassFile.FieldType.int)) ∈ lw_all := lw_g (lw_at lw_m0 111 rfl) rfl
theorem q114 : (Jvm.Cond.constant "BchDesk" (18 : Nat) (2147483647 : Int32)) ∈ lw_all := lw_g (lw_at lw_m0 112 rfl) rfl
/-! BchDeskModel -/
set_option maxRecDepth 100000
def RX1 : String := "BchDeskModel"
abbrev cX1_init : ByteArray := prog_3_method_1_code
def yX1_init : MethodName := ⟨RX1, "<init>", "()V"⟩
theorem dX1_init_0 : decode cX1_init 0 = .ok (.aload_n 0, 1) := by decide +kernel
theorem dX1_init_1 : decode cX1_init 1 = .ok (.invokespecial 1, 3) := by decide +kernel
theorem dX1_init_4 : decode cX1_init 4 = .ok (.return_, 1) := by decide +kernel
abbrev cX1_highest : ByteArray := prog_3_method_2_code
def yX1_highest : MethodName := ⟨RX1, "highest", "(I)I"⟩
def dkwX1_highest_1 : List UInt8 := [167, 0, 4, 28, 61, 132, 3, 1, 167, 255, 230, 28, 172]
abbrev dktX1_highest_1 : List UInt8 := dkwX1_highest_1 ++ []
def dkwX1_highest_0 : List UInt8 := [3, 61, 3, 62, 29, 16, 32, 162, 0, 26, 27, 29, 124, 4, 126, 4, 160, 0, 9, 29, 4, 96]
abbrev dktX1_highest_0 : List UInt8 := dkwX1_highest_0 ++ dktX1_highest_1
theorem dksX1_highest_0 : cX1_highest.data.toList.drop 0 = dktX1_highest_0 := by decide +kernel
theorem dksX1_highest_1 : cX1_highest.data.toList.drop 22 = dktX1_highest_1 := dk_seg dksX1_highest_0 22 rfl rfl
theorem dX1_highest_0 : decode cX1_highest 0 = .ok (.iconst 0, 1) := dk_3 (dk_at dksX1_highest_0 0 rfl rfl)
theorem dX1_highest_1 : decode cX1_highest 1 = .ok (.istore_n 2, 1) := dk_61 (dk_at dksX1_highest_0 1 rfl rfl)
theorem dX1_highest_2 : decode cX1_highest 2 = .ok (.iconst 0, 1) := dk_3 (dk_at dksX1_highest_0 2 rfl rfl)
theorem dX1_highest_3 : decode cX1_highest 3 = .ok (.istore_n 3, 1) := dk_62 (dk_at dksX1_highest_0 3 rfl rfl)
theorem dX1_highest_4 : decode cX1_highest 4 = .ok (.iload_n 3, 1) := dk_29 (dk_at dksX1_highest_0 4 rfl rfl)
theorem dX1_highest_5 : decode cX1_highest 5 = .ok (.bipush 32, 2) := dk_16 32 (dk_at dksX1_highest_0 5 rfl rfl)
theorem dX1_highest_7 : decode cX1_highest 7 = .ok (.if_icmp .ge 26, 3) := dk_162 0 26 (dk_at dksX1_highest_0 7 rfl rfl)
theorem dX1_highest_10 : decode cX1_highest 10 = .ok (.iload_n 1, 1) := dk_27 (dk_at dksX1_highest_0 10 rfl rfl)
theorem dX1_highest_11 : decode cX1_highest 11 = .ok (.iload_n 3, 1) := dk_29 (dk_at dksX1_highest_0 11 rfl rfl)
theorem dX1_highest_12 : decode cX1_highest 12 = .ok (.iushr, 1) := dk_124 (dk_at dksX1_highest_0 12 rfl rfl)
theorem dX1_highest_13 : decode cX1_highest 13 = .ok (.iconst 1, 1) := dk_4 (dk_at dksX1_highest_0 13 rfl rfl)
theorem dX1_highest_14 : decode cX1_highest 14 = .ok (.iand, 1) := dk_126 (dk_at dksX1_highest_0 14 rfl rfl)
theorem dX1_highest_15 : decode cX1_highest 15 = .ok (.iconst 1, 1) := dk_4 (dk_at dksX1_highest_0 15 rfl rfl)
theorem dX1_highest_16 : decode cX1_highest 16 = .ok (.if_icmp .ne 9, 3) := dk_160 0 9 (dk_at dksX1_highest_0 16 rfl rfl)
theorem dX1_highest_19 : decode cX1_highest 19 = .ok (.iload_n 3, 1) := dk_29 (dk_at dksX1_highest_0 19 rfl rfl)
theorem dX1_highest_20 : decode cX1_highest 20 = .ok (.iconst 1, 1) := dk_4 (dk_at dksX1_highest_0 20 rfl rfl)
theorem dX1_highest_21 : decode cX1_highest 21 = .ok (.iadd, 1) := dk_96 (dk_at dksX1_highest_0 21 rfl rfl)
theorem dX1_highest_22 : decode cX1_highest 22 = .ok (.goto 4, 3) := dk_167 0 4 (dk_at dksX1_highest_1 0 rfl rfl)
theorem dX1_highest_25 : decode cX1_highest 25 = .ok (.iload_n 2, 1) := dk_28 (dk_at dksX1_highest_1 3 rfl rfl)
theorem dX1_highest_26 : decode cX1_highest 26 = .ok (.istore_n 2, 1) := dk_61 (dk_at dksX1_highest_1 4 rfl rfl)
theorem dX1_highest_27 : decode cX1_highest 27 = .ok (.iinc 3 1, 3) := dk_132 3 1 (dk_at dksX1_highest_1 5 rfl rfl)
theorem dX1_highest_30 : decode cX1_highest 30 = .ok (.goto (-26), 3) := dk_167 255 230 (dk_at dksX1_highest_1 8 rfl rfl)
theorem dX1_highest_33 : decode cX1_highest 33 = .ok (.iload_n 2, 1) := dk_28 (dk_at dksX1_highest_1 11 rfl rfl)
theorem dX1_highest_34 : decode cX1_highest 34 = .ok (.ireturn, 1) := dk_172 (dk_at dksX1_highest_1 12 rfl rfl)
abbrev cX1_rest : ByteArray := prog_3_method_4_code
def yX1_rest : MethodName := ⟨RX1, "rest", "(II)I"⟩
def dkwX1_rest_0 : List UInt8 := [42, 27, 18, 13, 126, 5, 28, 17, 31, 255, 126, 96, 182, 0, 14, 172]
abbrev dktX1_rest_0 : List UInt8 := dkwX1_rest_0 ++ []
theorem dksX1_rest_0 : cX1_rest.data.toList.drop 0 = dktX1_rest_0 := by decide +kernel
theorem dX1_rest_0 : decode cX1_rest 0 = .ok (.aload_n 0, 1) := dk_42 (dk_at dksX1_rest_0 0 rfl rfl)
theorem dX1_rest_1 : decode cX1_rest 1 = .ok (.iload_n 1, 1) := dk_27 (dk_at dksX1_rest_0 1 rfl rfl)
theorem dX1_rest_2 : decode cX1_rest 2 = .ok (.ldc 13, 2) := dk_18 13 (dk_at dksX1_rest_0 2 rfl rfl)
theorem dX1_rest_4 : decode cX1_rest 4 = .ok (.iand, 1) := dk_126 (dk_at dksX1_rest_0 4 rfl rfl)
theorem dX1_rest_5 : decode cX1_rest 5 = .ok (.iconst 2, 1) := dk_5 (dk_at dksX1_rest_0 5 rfl rfl)
theorem dX1_rest_6 : decode cX1_rest 6 = .ok (.iload_n 2, 1) := dk_28 (dk_at dksX1_rest_0 6 rfl rfl)
theorem dX1_rest_7 : decode cX1_rest 7 = .ok (.sipush 8191, 3) := dk_17 31 255 (dk_at dksX1_rest_0 7 rfl rfl)
theorem dX1_rest_10 : decode cX1_rest 10 = .ok (.iand, 1) := dk_126 (dk_at dksX1_rest_0 10 rfl rfl)
theorem dX1_rest_11 : decode cX1_rest 11 = .ok (.iadd, 1) := dk_96 (dk_at dksX1_rest_0 11 rfl rfl)
theorem dX1_rest_12 : decode cX1_rest 12 = .ok (.invokevirtual 14, 3) := dk_182 0 14 (dk_at dksX1_rest_0 12 rfl rfl)
theorem dX1_rest_15 : decode cX1_rest 15 = .ok (.ireturn, 1) := dk_172 (dk_at dksX1_rest_0 15 rfl rfl)
abbrev cX1_divided : ByteArray := prog_3_method_3_code
def yX1_divided : MethodName := ⟨RX1, "divided", "(II)I"⟩
def dkwX1_divided_2 : List UInt8 := [54, 4, 132, 5, 255, 167, 255, 221, 21, 4, 172]
abbrev dktX1_divided_2 : List UInt8 := dkwX1_divided_2 ++ []
def dkwX1_divided_1 : List UInt8 := [21, 4, 21, 4, 21, 5, 124, 4, 126, 4, 160, 0, 12, 28, 21, 5, 29, 100, 120, 167, 0, 4, 3, 130]
abbrev dktX1_divided_1 : List UInt8 := dkwX1_divided_1 ++ dktX1_divided_2
def dkwX1_divided_0 : List UInt8 := [42, 28, 182, 0, 7, 4, 100, 62, 27, 29, 120, 54, 4, 16, 31, 54, 5, 21, 5, 29, 161, 0, 35]
abbrev dktX1_divided_0 : List UInt8 := dkwX1_divided_0 ++ dktX1_divided_1
theorem dksX1_divided_0 : cX1_divided.data.toList.drop 0 = dktX1_divided_0 := by decide +kernel
theorem dksX1_divided_1 : cX1_divided.data.toList.drop 23 = dktX1_divided_1 := dk_seg dksX1_divided_0 23 rfl rfl
theorem dksX1_divided_2 : cX1_divided.data.toList.drop 47 = dktX1_divided_2 := dk_seg dksX1_divided_1 24 rfl rfl
theorem dX1_divided_0 : decode cX1_divided 0 = .ok (.aload_n 0, 1) := dk_42 (dk_at dksX1_divided_0 0 rfl rfl)
theorem dX1_divided_1 : decode cX1_divided 1 = .ok (.iload_n 2, 1) := dk_28 (dk_at dksX1_divided_0 1 rfl rfl)
theorem dX1_divided_2 : decode cX1_divided 2 = .ok (.invokevirtual 7, 3) := dk_182 0 7 (dk_at dksX1_divided_0 2 rfl rfl)
theorem dX1_divided_5 : decode cX1_divided 5 = .ok (.iconst 1, 1) := dk_4 (dk_at dksX1_divided_0 5 rfl rfl)
theorem dX1_divided_6 : decode cX1_divided 6 = .ok (.isub, 1) := dk_100 (dk_at dksX1_divided_0 6 rfl rfl)
theorem dX1_divided_7 : decode cX1_divided 7 = .ok (.istore_n 3, 1) := dk_62 (dk_at dksX1_divided_0 7 rfl rfl)
theorem dX1_divided_8 : decode cX1_divided 8 = .ok (.iload_n 1, 1) := dk_27 (dk_at dksX1_divided_0 8 rfl rfl)
theorem dX1_divided_9 : decode cX1_divided 9 = .ok (.iload_n 3, 1) := dk_29 (dk_at dksX1_divided_0 9 rfl rfl)
theorem dX1_divided_10 : decode cX1_divided 10 = .ok (.ishl, 1) := dk_120 (dk_at dksX1_divided_0 10 rfl rfl)
theorem dX1_divided_11 : decode cX1_divided 11 = .ok (.istore 4, 2) := dk_54 4 (dk_at dksX1_divided_0 11 rfl rfl)
theorem dX1_divided_13 : decode cX1_divided 13 = .ok (.bipush 31, 2) := dk_16 31 (dk_at dksX1_divided_0 13 rfl rfl)
theorem dX1_divided_15 : decode cX1_divided 15 = .ok (.istore 5, 2) := dk_54 5 (dk_at dksX1_divided_0 15 rfl rfl)
theorem dX1_divided_17 : decode cX1_divided 17 = .ok (.iload 5, 2) := dk_21 5 (dk_at dksX1_divided_0 17 rfl rfl)
theorem dX1_divided_19 : decode cX1_divided 19 = .ok (.iload_n 3, 1) := dk_29 (dk_at dksX1_divided_0 19 rfl rfl)
theorem dX1_divided_20 : decode cX1_divided 20 = .ok (.if_icmp .lt 35, 3) := dk_161 0 35 (dk_at dksX1_divided_0 20 rfl rfl)
theorem dX1_divided_23 : decode cX1_divided 23 = .ok (.iload 4, 2) := dk_21 4 (dk_at dksX1_divided_1 0 rfl rfl)
theorem dX1_divided_25 : decode cX1_divided 25 = .ok (.iload 4, 2) := dk_21 4 (dk_at dksX1_divided_1 2 rfl rfl)
theorem dX1_divided_27 : decode cX1_divided 27 = .ok (.iload 5, 2) := dk_21 5 (dk_at dksX1_divided_1 4 rfl rfl)
theorem dX1_divided_29 : decode cX1_divided 29 = .ok (.iushr, 1) := dk_124 (dk_at dksX1_divided_1 6 rfl rfl)
theorem dX1_divided_30 : decode cX1_divided 30 = .ok (.iconst 1, 1) := dk_4 (dk_at dksX1_divided_1 7 rfl rfl)
theorem dX1_divided_31 : decode cX1_divided 31 = .ok (.iand, 1) := dk_126 (dk_at dksX1_divided_1 8 rfl rfl)
theorem dX1_divided_32 : decode cX1_divided 32 = .ok (.iconst 1, 1) := dk_4 (dk_at dksX1_divided_1 9 rfl rfl)
theorem dX1_divided_33 : decode cX1_divided 33 = .ok (.if_icmp .ne 12, 3) := dk_160 0 12 (dk_at dksX1_divided_1 10 rfl rfl)
theorem dX1_divided_36 : decode cX1_divided 36 = .ok (.iload_n 2, 1) := dk_28 (dk_at dksX1_divided_1 13 rfl rfl)
theorem dX1_divided_37 : decode cX1_divided 37 = .ok (.iload 5, 2) := dk_21 5 (dk_at dksX1_divided_1 14 rfl rfl)
theorem dX1_divided_39 : decode cX1_divided 39 = .ok (.iload_n 3, 1) := dk_29 (dk_at dksX1_divided_1 16 rfl rfl)
theorem dX1_divided_40 : decode cX1_divided 40 = .ok (.isub, 1) := dk_100 (dk_at dksX1_divided_1 17 rfl rfl)
theorem dX1_divided_41 : decode cX1_divided 41 = .ok (.ishl, 1) := dk_120 (dk_at dksX1_divided_1 18 rfl rfl)
theorem dX1_divided_42 : decode cX1_divided 42 = .ok (.goto 4, 3) := dk_167 0 4 (dk_at dksX1_divided_1 19 rfl rfl)
theorem dX1_divided_45 : decode cX1_divided 45 = .ok (.iconst 0, 1) := dk_3 (dk_at dksX1_divided_1 22 rfl rfl)
theorem dX1_divided_46 : decode cX1_divided 46 = .ok (.ixor, 1) := dk_130 (dk_at dksX1_divided_1 23 rfl rfl)
theorem dX1_divided_47 : decode cX1_divided 47 = .ok (.istore 4, 2) := dk_54 4 (dk_at dksX1_divided_2 0 rfl rfl)
theorem dX1_divided_49 : decode cX1_divided 49 = .ok (.iinc 5 (-1), 3) := dk_132 5 255 (dk_at dksX1_divided_2 2 rfl rfl)
theorem dX1_divided_52 : decode cX1_divided 52 = .ok (.goto (-35), 3) := dk_167 255 221 (dk_at dksX1_divided_2 5 rfl rfl)
theorem dX1_divided_55 : decode cX1_divided 55 = .ok (.iload 4, 2) := dk_21 4 (dk_at dksX1_divided_2 8 rfl rfl)
theorem dX1_divided_57 : decode cX1_divided 57 = .ok (.ireturn, 1) := dk_172 (dk_at dksX1_divided_2 10 rfl rfl)
abbrev cX1_format : ByteArray := prog_3_method_5_code
def yX1_format : MethodName := ⟨RX1, "format", "(I)I"⟩
def dkwX1_format_0 : List UInt8 := [27, 16, 31, 126, 61, 28, 16, 10, 120, 42, 28, 17, 5, 55, 182, 0, 14, 128, 17, 84, 18, 130, 172]
abbrev dktX1_format_0 : List UInt8 := dkwX1_format_0 ++ []
theorem dksX1_format_0 : cX1_format.data.toList.drop 0 = dktX1_format_0 := by decide +kernel
theorem dX1_format_0 : decode cX1_format 0 = .ok (.iload_n 1, 1) := dk_27 (dk_at dksX1_format_0 0 rfl rfl)
theorem dX1_format_1 : decode cX1_format 1 = .ok (.bipush 31, 2) := dk_16 31 (dk_at dksX1_format_0 1 rfl rfl)
theorem dX1_format_3 : decode cX1_format 3 = .ok (.iand, 1) := dk_126 (dk_at dksX1_format_0 3 rfl rfl)
theorem dX1_format_4 : decode cX1_format 4 = .ok (.istore_n 2, 1) := dk_61 (dk_at dksX1_format_0 4 rfl rfl)
theorem dX1_format_5 : decode cX1_format 5 = .ok (.iload_n 2, 1) := dk_28 (dk_at dksX1_format_0 5 rfl rfl)
theorem dX1_format_6 : decode cX1_format 6 = .ok (.bipush 10, 2) := dk_16 10 (dk_at dksX1_format_0 6 rfl rfl)
theorem dX1_format_8 : decode cX1_format 8 = .ok (.ishl, 1) := dk_120 (dk_at dksX1_format_0 8 rfl rfl)
theorem dX1_format_9 : decode cX1_format 9 = .ok (.aload_n 0, 1) := dk_42 (dk_at dksX1_format_0 9 rfl rfl)
theorem dX1_format_10 : decode cX1_format 10 = .ok (.iload_n 2, 1) := dk_28 (dk_at dksX1_format_0 10 rfl rfl)
theorem dX1_format_11 : decode cX1_format 11 = .ok (.sipush 1335, 3) := dk_17 5 55 (dk_at dksX1_format_0 11 rfl rfl)
theorem dX1_format_14 : decode cX1_format 14 = .ok (.invokevirtual 14, 3) := dk_182 0 14 (dk_at dksX1_format_0 14 rfl rfl)
theorem dX1_format_17 : decode cX1_format 17 = .ok (.ior, 1) := dk_128 (dk_at dksX1_format_0 17 rfl rfl)
theorem dX1_format_18 : decode cX1_format 18 = .ok (.sipush 21522, 3) := dk_17 84 18 (dk_at dksX1_format_0 18 rfl rfl)
theorem dX1_format_21 : decode cX1_format 21 = .ok (.ixor, 1) := dk_130 (dk_at dksX1_format_0 21 rfl rfl)
theorem dX1_format_22 : decode cX1_format 22 = .ok (.ireturn, 1) := dk_172 (dk_at dksX1_format_0 22 rfl rfl)
abbrev cX1_version : ByteArray := prog_3_method_6_code
def yX1_version : MethodName := ⟨RX1, "version", "(I)I"⟩
def dkwX1_version_1 : List UInt8 := [172]
abbrev dktX1_version_1 : List UInt8 := dkwX1_version_1 ++ []
def dkwX1_version_0 : List UInt8 := [16, 7, 27, 18, 18, 126, 16, 34, 112, 96, 61, 28, 16, 12, 120, 42, 28, 17, 31, 37, 182, 0, 14, 128]
abbrev dktX1_version_0 : List UInt8 := dkwX1_version_0 ++ dktX1_version_1
theorem dksX1_version_0 : cX1_version.data.toList.drop 0 = dktX1_version_0 := by decide +kernel
theorem dksX1_version_1 : cX1_version.data.toList.drop 24 = dktX1_version_1 := dk_seg dksX1_version_0 24 rfl rfl
theorem dX1_version_0 : decode cX1_version 0 = .ok (.bipush 7, 2) := dk_16 7 (dk_at dksX1_version_0 0 rfl rfl)
theorem dX1_version_2 : decode cX1_version 2 = .ok (.iload_n 1, 1) := dk_27 (dk_at dksX1_version_0 2 rfl rfl)
theorem dX1_version_3 : decode cX1_version 3 = .ok (.ldc 18, 2) := dk_18 18 (dk_at dksX1_version_0 3 rfl rfl)
theorem dX1_version_5 : decode cX1_version 5 = .ok (.iand, 1) := dk_126 (dk_at dksX1_version_0 5 rfl rfl)
theorem dX1_version_6 : decode cX1_version 6 = .ok (.bipush 34, 2) := dk_16 34 (dk_at dksX1_version_0 6 rfl rfl)
theorem dX1_version_8 : decode cX1_version 8 = .ok (.irem, 1) := dk_112 (dk_at dksX1_version_0 8 rfl rfl)
theorem dX1_version_9 : decode cX1_version 9 = .ok (.iadd, 1) := dk_96 (dk_at dksX1_version_0 9 rfl rfl)
theorem dX1_version_10 : decode cX1_version 10 = .ok (.istore_n 2, 1) := dk_61 (dk_at dksX1_version_0 10 rfl rfl)
theorem dX1_version_11 : decode cX1_version 11 = .ok (.iload_n 2, 1) := dk_28 (dk_at dksX1_version_0 11 rfl rfl)
theorem dX1_version_12 : decode cX1_version 12 = .ok (.bipush 12, 2) := dk_16 12 (dk_at dksX1_version_0 12 rfl rfl)
theorem dX1_version_14 : decode cX1_version 14 = .ok (.ishl, 1) := dk_120 (dk_at dksX1_version_0 14 rfl rfl)
theorem dX1_version_15 : decode cX1_version 15 = .ok (.aload_n 0, 1) := dk_42 (dk_at dksX1_version_0 15 rfl rfl)
theorem dX1_version_16 : decode cX1_version 16 = .ok (.iload_n 2, 1) := dk_28 (dk_at dksX1_version_0 16 rfl rfl)
theorem dX1_version_17 : decode cX1_version 17 = .ok (.sipush 7973, 3) := dk_17 31 37 (dk_at dksX1_version_0 17 rfl rfl)
theorem dX1_version_20 : decode cX1_version 20 = .ok (.invokevirtual 14, 3) := dk_182 0 14 (dk_at dksX1_version_0 20 rfl rfl)
theorem dX1_version_23 : decode cX1_version 23 = .ok (.ior, 1) := dk_128 (dk_at dksX1_version_0 23 rfl rfl)
theorem dX1_version_24 : decode cX1_version 24 = .ok (.ireturn, 1) := dk_172 (dk_at dksX1_version_1 0 rfl rfl)
theorem q4 : (Jvm.Cond.initialized "BchDeskModel") ∈ lw_all := lw_g (lw_at lw_m0 2 rfl) rfl
theorem q116 : (Jvm.Cond.instantiable "BchDeskModel" (0 : Nat)) ∈ lw_all := lw_g (lw_at lw_m0 114 rfl) rfl
theorem q118 : (Jvm.Cond.instanceMethod ({ cls := "BchDeskModel", name := "<init>", desc := "()V" } : Jvm.MethodName)) ∈ lw_all := lw_g (lw_at lw_m0 116 rfl) rfl
theorem q119 : (Jvm.Cond.code ({ cls := "BchDeskModel", name := "<init>", desc := "()V" } : Jvm.MethodName) prog_3_method_1_code (1 : Nat) (Option.none : Option Jvm.ClassFile.FieldType)) ∈ lw_all := lw_g (lw_at lw_m0 117 rfl) rfl
theorem q120 : (Jvm.Cond.methodLink "BchDeskModel" (1 : Nat) ({ cls := "java/lang/Object", name := "<init>", desc := "()V" } : Jvm.MethodName)) ∈ lw_all := lw_g (lw_at lw_m0 118 rfl) rfl
theorem q121 : (Jvm.Cond.superclass "BchDeskModel" "java/lang/Object") ∈ lw_all := lw_g (lw_at lw_m0 119 rfl) rfl
theorem q123 : (Jvm.Cond.instanceMethod ({ cls := "BchDeskModel", name := "highest", desc := "(I)I" } : Jvm.MethodName)) ∈ lw_all := lw_g (lw_at lw_m0 121 rfl) rfl
theorem q124 : (Jvm.Cond.selects "BchDeskModel" ({ cls := "BchDeskModel", name := "highest", desc := "(I)I" } : Jvm.MethodName) ({ cls := "BchDeskModel", name := "highest", desc := "(I)I" } : Jvm.MethodName)) ∈ lw_all := lw_g (lw_at lw_m0 122 rfl) rfl
theorem q125 : (Jvm.Cond.code ({ cls := "BchDeskModel", name := "highest", desc := "(I)I" } : Jvm.MethodName) prog_3_method_2_code (4 : Nat) (Option.some Jvm.ClassFile.FieldType.int)) ∈ lw_all := lw_g (lw_at lw_m0 123 rfl) rfl
theorem q127 : (Jvm.Cond.instanceMethod ({ cls := "BchDeskModel", name := "rest", desc := "(II)I" } : Jvm.MethodName)) ∈ lw_all := lw_g (lw_at lw_m0 125 rfl) rfl
theorem q128 : (Jvm.Cond.selects "BchDeskModel" ({ cls := "BchDeskModel", name := "rest", desc := "(II)I" } : Jvm.MethodName) ({ cls := "BchDeskModel", name := "rest", desc := "(II)I" } : Jvm.MethodName)) ∈ lw_all := lw_g (lw_at lw_m0 126 rfl) rfl
theorem q129 : (Jvm.Cond.code ({ cls := "BchDeskModel", name := "rest", desc := "(II)I" } : Jvm.MethodName) prog_3_method_4_code (3 : Nat) (Option.some Jvm.ClassFile.FieldType.int)) ∈ lw_all := lw_g (lw_at lw_m0 127 rfl) rfl
theorem q130 : (Jvm.Cond.constant "BchDeskModel" (13 : Nat) (65535 : Int32)) ∈ lw_all := lw_g (lw_at lw_m0 128 rfl) rfl
theorem q131 : (Jvm.Cond.methodLink "BchDeskModel" (14 : Nat) ({ cls := "BchDeskModel", name := "divided", desc := "(II)I" } : Jvm.MethodName)) ∈ lw_all := lw_g (lw_at lw_m0 129 rfl) rfl
theorem q132 : (Jvm.Cond.privateMethod ({ cls := "BchDeskModel", name := "divided", desc := "(II)I" } : Jvm.MethodName)) ∈ lw_tbl := lw_at lw_m0 130 rfl
theorem q133 : (Jvm.Cond.instanceMethod ({ cls := "BchDeskModel", name := "divided", desc := "(II)I" } : Jvm.MethodName)) ∈ lw_all := lw_g (lw_at lw_m0 131 rfl) rfl
theorem q134 : (Jvm.Cond.code ({ cls := "BchDeskModel", name := "divided", desc := "(II)I" } : Jvm.MethodName) prog_3_method_3_code (6 : Nat) (Option.some Jvm.ClassFile.FieldType.int)) ∈ lw_all := lw_g (lw_at lw_m0 132 rfl) rfl
theorem q135 : (Jvm.Cond.methodLink "BchDeskModel" (7 : Nat) ({ cls := "BchDeskModel", name := "highest", desc := "(I)I" } : Jvm.MethodName)) ∈ lw_all := lw_g (lw_at lw_m0 133 rfl) rfl
theorem q137 : (Jvm.Cond.instanceMethod ({ cls := "BchDeskModel", name := "format", desc := "(I)I" } : Jvm.MethodName)) ∈ lw_all := lw_g (lw_at lw_m0 135 rfl) rfl
theorem q138 : (Jvm.Cond.selects "BchDeskModel" ({ cls := "BchDeskModel", name := "format", desc := "(I)I" } : Jvm.MethodName) ({ cls := "BchDeskModel", name := "format", desc := "(I)I" } : Jvm.MethodName)) ∈ lw_all := lw_g (lw_at lw_m0 136 rfl) rfl
theorem q139 : (Jvm.Cond.code ({ cls := "BchDeskModel", name := "format", desc := "(I)I" } : Jvm.MethodName) prog_3_method_5_code (3 : Nat) (Option.some Jvm.ClassFile.FieldType.int)) ∈ lw_all := lw_g (lw_at lw_m0 137 rfl) rfl
theorem q141 : (Jvm.Cond.instanceMethod ({ cls := "BchDeskModel", name := "version", desc := "(I)I" } : Jvm.MethodName)) ∈ lw_all := lw_g (lw_at lw_m0 139 rfl) rfl
theorem q142 : (Jvm.Cond.selects "BchDeskModel" ({ cls := "BchDeskModel", name := "version", desc := "(I)I" } : Jvm.MethodName) ({ cls := "BchDeskModel", name := "version", desc := "(I)I" } : Jvm.MethodName)) ∈ lw_all := lw_g (lw_at lw_m0 140 rfl) rfl
theorem q143 : (Jvm.Cond.code ({ cls := "BchDeskModel", name := "version", desc := "(I)I" } : Jvm.MethodName) prog_3_method_6_code (3 : Nat) (Option.some Jvm.ClassFile.FieldType.int)) ∈ lw_all := lw_g (lw_at lw_m0 141 rfl) rfl
theorem q144 : (Jvm.Cond.constant "BchDeskModel" (18 : Nat) (2147483647 : Int32)) ∈ lw_all := lw_g (lw_at lw_m0 142 rfl) rfl
/-! the law's own entry -/
set_option maxRecDepth 100000
abbrev cL_law : ByteArray := code
def dkwL_law_7 : List UInt8 := [182, 0, 30, 159, 0, 5, 3, 172, 132, 3, 6, 167, 255, 105, 4, 172]
abbrev dktL_law_7 : List UInt8 := dkwL_law_7 ++ []
def dkwL_law_6 : List UInt8 := [182, 0, 26, 159, 0, 28, 3, 172, 43, 42, 29, 4, 96, 46, 182, 0, 27, 44, 42, 29, 4, 96, 46]
abbrev dktL_law_6 : List UInt8 := dkwL_law_6 ++ dktL_law_7
def dkwL_law_5 : List UInt8 := [182, 0, 22, 159, 0, 51, 3, 172, 43, 42, 29, 4, 96, 46, 182, 0, 23, 44, 42, 29, 4, 96, 46]
abbrev dktL_law_5 : List UInt8 := dkwL_law_5 ++ dktL_law_6
def dkwL_law_4 : List UInt8 := [42, 29, 4, 96, 46, 42, 29, 5, 96, 46, 182, 0, 18, 44, 42, 29, 4, 96, 46, 42, 29, 5, 96, 46]
abbrev dktL_law_4 : List UInt8 := dkwL_law_4 ++ dktL_law_5
def dkwL_law_3 : List UInt8 := [43, 42, 29, 4, 96, 46, 182, 0, 13, 44, 42, 29, 4, 96, 46, 182, 0, 17, 159, 0, 84, 3, 172, 43]
abbrev dktL_law_3 : List UInt8 := dkwL_law_3 ++ dktL_law_4
def dkwL_law_2 : List UInt8 := [170, 0, 0, 0, 0, 0, 0, 134, 0, 0, 0, 0, 0, 0, 0, 3, 0, 0, 0, 32, 0, 0, 0, 55, 0, 0, 0, 88, 0, 0, 0, 111]
abbrev dktL_law_2 : List UInt8 := dkwL_law_2 ++ dktL_law_3
def dkwL_law_1 : List UInt8 := [163, 0, 148, 42, 29, 46, 6, 126]
abbrev dktL_law_1 : List UInt8 := dkwL_law_1 ++ dktL_law_2
def dkwL_law_0 : List UInt8 := [187, 0, 7, 89, 183, 0, 9, 76, 187, 0, 10, 89, 183, 0, 12, 77, 3, 62, 29, 42, 190, 16, 6, 100]
abbrev dktL_law_0 : List UInt8 := dkwL_law_0 ++ dktL_law_1
theorem dksL_law_0 : cL_law.data.toList.drop 0 = dktL_law_0 := by decide +kernel
theorem dksL_law_1 : cL_law.data.toList.drop 24 = dktL_law_1 := dk_seg dksL_law_0 24 rfl rfl
theorem dksL_law_2 : cL_law.data.toList.drop 32 = dktL_law_2 := dk_seg dksL_law_1 8 rfl rfl
theorem dksL_law_3 : cL_law.data.toList.drop 64 = dktL_law_3 := dk_seg dksL_law_2 32 rfl rfl
theorem dksL_law_4 : cL_law.data.toList.drop 88 = dktL_law_4 := dk_seg dksL_law_3 24 rfl rfl
theorem dksL_law_5 : cL_law.data.toList.drop 112 = dktL_law_5 := dk_seg dksL_law_4 24 rfl rfl
theorem dksL_law_6 : cL_law.data.toList.drop 135 = dktL_law_6 := dk_seg dksL_law_5 23 rfl rfl
theorem dksL_law_7 : cL_law.data.toList.drop 158 = dktL_law_7 := dk_seg dksL_law_6 23 rfl rfl
theorem dL_law_0 : decode cL_law 0 = .ok (.new 7, 3) := dk_187 0 7 (dk_at dksL_law_0 0 rfl rfl)
theorem dL_law_3 : decode cL_law 3 = .ok (.dup, 1) := dk_89 (dk_at dksL_law_0 3 rfl rfl)
theorem dL_law_4 : decode cL_law 4 = .ok (.invokespecial 9, 3) := dk_183 0 9 (dk_at dksL_law_0 4 rfl rfl)
theorem dL_law_7 : decode cL_law 7 = .ok (.astore_n 1, 1) := dk_76 (dk_at dksL_law_0 7 rfl rfl)
theorem dL_law_8 : decode cL_law 8 = .ok (.new 10, 3) := dk_187 0 10 (dk_at dksL_law_0 8 rfl rfl)
theorem dL_law_11 : decode cL_law 11 = .ok (.dup, 1) := dk_89 (dk_at dksL_law_0 11 rfl rfl)
theorem dL_law_12 : decode cL_law 12 = .ok (.invokespecial 12, 3) := dk_183 0 12 (dk_at dksL_law_0 12 rfl rfl)
theorem dL_law_15 : decode cL_law 15 = .ok (.astore_n 2, 1) := dk_77 (dk_at dksL_law_0 15 rfl rfl)
theorem dL_law_16 : decode cL_law 16 = .ok (.iconst 0, 1) := dk_3 (dk_at dksL_law_0 16 rfl rfl)
theorem dL_law_17 : decode cL_law 17 = .ok (.istore_n 3, 1) := dk_62 (dk_at dksL_law_0 17 rfl rfl)
theorem dL_law_18 : decode cL_law 18 = .ok (.iload_n 3, 1) := dk_29 (dk_at dksL_law_0 18 rfl rfl)
theorem dL_law_19 : decode cL_law 19 = .ok (.aload_n 0, 1) := dk_42 (dk_at dksL_law_0 19 rfl rfl)
theorem dL_law_20 : decode cL_law 20 = .ok (.arraylength, 1) := dk_190 (dk_at dksL_law_0 20 rfl rfl)
theorem dL_law_21 : decode cL_law 21 = .ok (.bipush 6, 2) := dk_16 6 (dk_at dksL_law_0 21 rfl rfl)
theorem dL_law_23 : decode cL_law 23 = .ok (.isub, 1) := dk_100 (dk_at dksL_law_0 23 rfl rfl)
theorem dL_law_24 : decode cL_law 24 = .ok (.if_icmp .gt 148, 3) := dk_163 0 148 (dk_at dksL_law_1 0 rfl rfl)
theorem dL_law_27 : decode cL_law 27 = .ok (.aload_n 0, 1) := dk_42 (dk_at dksL_law_1 3 rfl rfl)
theorem dL_law_28 : decode cL_law 28 = .ok (.iload_n 3, 1) := dk_29 (dk_at dksL_law_1 4 rfl rfl)
theorem dL_law_29 : decode cL_law 29 = .ok (.iaload, 1) := dk_46 (dk_at dksL_law_1 5 rfl rfl)
theorem dL_law_30 : decode cL_law 30 = .ok (.iconst 3, 1) := dk_6 (dk_at dksL_law_1 6 rfl rfl)
theorem dL_law_31 : decode cL_law 31 = .ok (.iand, 1) := dk_126 (dk_at dksL_law_1 7 rfl rfl)
theorem dL_law_32 : decode cL_law 32 = .ok (.tableswitch 134 0 3 #[32, 55, 88, 111], 32) := by decide +kernel
theorem dL_law_64 : decode cL_law 64 = .ok (.aload_n 1, 1) := dk_43 (dk_at dksL_law_3 0 rfl rfl)
theorem dL_law_65 : decode cL_law 65 = .ok (.aload_n 0, 1) := dk_42 (dk_at dksL_law_3 1 rfl rfl)
theorem dL_law_66 : decode cL_law 66 = .ok (.iload_n 3, 1) := dk_29 (dk_at dksL_law_3 2 rfl rfl)
theorem dL_law_67 : decode cL_law 67 = .ok (.iconst 1, 1) := dk_4 (dk_at dksL_law_3 3 rfl rfl)
theorem dL_law_68 : decode cL_law 68 = .ok (.iadd, 1) := dk_96 (dk_at dksL_law_3 4 rfl rfl)
theorem dL_law_69 : decode cL_law 69 = .ok (.iaload, 1) := dk_46 (dk_at dksL_law_3 5 rfl rfl)
theorem dL_law_70 : decode cL_law 70 = .ok (.invokevirtual 13, 3) := dk_182 0 13 (dk_at dksL_law_3 6 rfl rfl)
theorem dL_law_73 : decode cL_law 73 = .ok (.aload_n 2, 1) := dk_44 (dk_at dksL_law_3 9 rfl rfl)
theorem dL_law_74 : decode cL_law 74 = .ok (.aload_n 0, 1) := dk_42 (dk_at dksL_law_3 10 rfl rfl)
theorem dL_law_75 : decode cL_law 75 = .ok (.iload_n 3, 1) := dk_29 (dk_at dksL_law_3 11 rfl rfl)
theorem dL_law_76 : decode cL_law 76 = .ok (.iconst 1, 1) := dk_4 (dk_at dksL_law_3 12 rfl rfl)
theorem dL_law_77 : decode cL_law 77 = .ok (.iadd, 1) := dk_96 (dk_at dksL_law_3 13 rfl rfl)
theorem dL_law_78 : decode cL_law 78 = .ok (.iaload, 1) := dk_46 (dk_at dksL_law_3 14 rfl rfl)
theorem dL_law_79 : decode cL_law 79 = .ok (.invokevirtual 17, 3) := dk_182 0 17 (dk_at dksL_law_3 15 rfl rfl)
theorem dL_law_82 : decode cL_law 82 = .ok (.if_icmp .eq 84, 3) := dk_159 0 84 (dk_at dksL_law_3 18 rfl rfl)
theorem dL_law_85 : decode cL_law 85 = .ok (.iconst 0, 1) := dk_3 (dk_at dksL_law_3 21 rfl rfl)
theorem dL_law_86 : decode cL_law 86 = .ok (.ireturn, 1) := dk_172 (dk_at dksL_law_3 22 rfl rfl)
theorem dL_law_87 : decode cL_law 87 = .ok (.aload_n 1, 1) := dk_43 (dk_at dksL_law_3 23 rfl rfl)
theorem dL_law_88 : decode cL_law 88 = .ok (.aload_n 0, 1) := dk_42 (dk_at dksL_law_4 0 rfl rfl)
theorem dL_law_89 : decode cL_law 89 = .ok (.iload_n 3, 1) := dk_29 (dk_at dksL_law_4 1 rfl rfl)
theorem dL_law_90 : decode cL_law 90 = .ok (.iconst 1, 1) := dk_4 (dk_at dksL_law_4 2 rfl rfl)
theorem dL_law_91 : decode cL_law 91 = .ok (.iadd, 1) := dk_96 (dk_at dksL_law_4 3 rfl rfl)
theorem dL_law_92 : decode cL_law 92 = .ok (.iaload, 1) := dk_46 (dk_at dksL_law_4 4 rfl rfl)
theorem dL_law_93 : decode cL_law 93 = .ok (.aload_n 0, 1) := dk_42 (dk_at dksL_law_4 5 rfl rfl)
theorem dL_law_94 : decode cL_law 94 = .ok (.iload_n 3, 1) := dk_29 (dk_at dksL_law_4 6 rfl rfl)
theorem dL_law_95 : decode cL_law 95 = .ok (.iconst 2, 1) := dk_5 (dk_at dksL_law_4 7 rfl rfl)
theorem dL_law_96 : decode cL_law 96 = .ok (.iadd, 1) := dk_96 (dk_at dksL_law_4 8 rfl rfl)
theorem dL_law_97 : decode cL_law 97 = .ok (.iaload, 1) := dk_46 (dk_at dksL_law_4 9 rfl rfl)
theorem dL_law_98 : decode cL_law 98 = .ok (.invokevirtual 18, 3) := dk_182 0 18 (dk_at dksL_law_4 10 rfl rfl)
theorem dL_law_101 : decode cL_law 101 = .ok (.aload_n 2, 1) := dk_44 (dk_at dksL_law_4 13 rfl rfl)
theorem dL_law_102 : decode cL_law 102 = .ok (.aload_n 0, 1) := dk_42 (dk_at dksL_law_4 14 rfl rfl)
theorem dL_law_103 : decode cL_law 103 = .ok (.iload_n 3, 1) := dk_29 (dk_at dksL_law_4 15 rfl rfl)
theorem dL_law_104 : decode cL_law 104 = .ok (.iconst 1, 1) := dk_4 (dk_at dksL_law_4 16 rfl rfl)
theorem dL_law_105 : decode cL_law 105 = .ok (.iadd, 1) := dk_96 (dk_at dksL_law_4 17 rfl rfl)
theorem dL_law_106 : decode cL_law 106 = .ok (.iaload, 1) := dk_46 (dk_at dksL_law_4 18 rfl rfl)
theorem dL_law_107 : decode cL_law 107 = .ok (.aload_n 0, 1) := dk_42 (dk_at dksL_law_4 19 rfl rfl)
theorem dL_law_108 : decode cL_law 108 = .ok (.iload_n 3, 1) := dk_29 (dk_at dksL_law_4 20 rfl rfl)
theorem dL_law_109 : decode cL_law 109 = .ok (.iconst 2, 1) := dk_5 (dk_at dksL_law_4 21 rfl rfl)
theorem dL_law_110 : decode cL_law 110 = .ok (.iadd, 1) := dk_96 (dk_at dksL_law_4 22 rfl rfl)
theorem dL_law_111 : decode cL_law 111 = .ok (.iaload, 1) := dk_46 (dk_at dksL_law_4 23 rfl rfl)
theorem dL_law_112 : decode cL_law 112 = .ok (.invokevirtual 22, 3) := dk_182 0 22 (dk_at dksL_law_5 0 rfl rfl)
theorem dL_law_115 : decode cL_law 115 = .ok (.if_icmp .eq 51, 3) := dk_159 0 51 (dk_at dksL_law_5 3 rfl rfl)
theorem dL_law_118 : decode cL_law 118 = .ok (.iconst 0, 1) := dk_3 (dk_at dksL_law_5 6 rfl rfl)
theorem dL_law_119 : decode cL_law 119 = .ok (.ireturn, 1) := dk_172 (dk_at dksL_law_5 7 rfl rfl)
theorem dL_law_120 : decode cL_law 120 = .ok (.aload_n 1, 1) := dk_43 (dk_at dksL_law_5 8 rfl rfl)
theorem dL_law_121 : decode cL_law 121 = .ok (.aload_n 0, 1) := dk_42 (dk_at dksL_law_5 9 rfl rfl)
theorem dL_law_122 : decode cL_law 122 = .ok (.iload_n 3, 1) := dk_29 (dk_at dksL_law_5 10 rfl rfl)
theorem dL_law_123 : decode cL_law 123 = .ok (.iconst 1, 1) := dk_4 (dk_at dksL_law_5 11 rfl rfl)
theorem dL_law_124 : decode cL_law 124 = .ok (.iadd, 1) := dk_96 (dk_at dksL_law_5 12 rfl rfl)
theorem dL_law_125 : decode cL_law 125 = .ok (.iaload, 1) := dk_46 (dk_at dksL_law_5 13 rfl rfl)
theorem dL_law_126 : decode cL_law 126 = .ok (.invokevirtual 23, 3) := dk_182 0 23 (dk_at dksL_law_5 14 rfl rfl)
theorem dL_law_129 : decode cL_law 129 = .ok (.aload_n 2, 1) := dk_44 (dk_at dksL_law_5 17 rfl rfl)
theorem dL_law_130 : decode cL_law 130 = .ok (.aload_n 0, 1) := dk_42 (dk_at dksL_law_5 18 rfl rfl)
theorem dL_law_131 : decode cL_law 131 = .ok (.iload_n 3, 1) := dk_29 (dk_at dksL_law_5 19 rfl rfl)
theorem dL_law_132 : decode cL_law 132 = .ok (.iconst 1, 1) := dk_4 (dk_at dksL_law_5 20 rfl rfl)
theorem dL_law_133 : decode cL_law 133 = .ok (.iadd, 1) := dk_96 (dk_at dksL_law_5 21 rfl rfl)
theorem dL_law_134 : decode cL_law 134 = .ok (.iaload, 1) := dk_46 (dk_at dksL_law_5 22 rfl rfl)
theorem dL_law_135 : decode cL_law 135 = .ok (.invokevirtual 26, 3) := dk_182 0 26 (dk_at dksL_law_6 0 rfl rfl)
theorem dL_law_138 : decode cL_law 138 = .ok (.if_icmp .eq 28, 3) := dk_159 0 28 (dk_at dksL_law_6 3 rfl rfl)
theorem dL_law_141 : decode cL_law 141 = .ok (.iconst 0, 1) := dk_3 (dk_at dksL_law_6 6 rfl rfl)
theorem dL_law_142 : decode cL_law 142 = .ok (.ireturn, 1) := dk_172 (dk_at dksL_law_6 7 rfl rfl)
theorem dL_law_143 : decode cL_law 143 = .ok (.aload_n 1, 1) := dk_43 (dk_at dksL_law_6 8 rfl rfl)
theorem dL_law_144 : decode cL_law 144 = .ok (.aload_n 0, 1) := dk_42 (dk_at dksL_law_6 9 rfl rfl)
theorem dL_law_145 : decode cL_law 145 = .ok (.iload_n 3, 1) := dk_29 (dk_at dksL_law_6 10 rfl rfl)
theorem dL_law_146 : decode cL_law 146 = .ok (.iconst 1, 1) := dk_4 (dk_at dksL_law_6 11 rfl rfl)
theorem dL_law_147 : decode cL_law 147 = .ok (.iadd, 1) := dk_96 (dk_at dksL_law_6 12 rfl rfl)
theorem dL_law_148 : decode cL_law 148 = .ok (.iaload, 1) := dk_46 (dk_at dksL_law_6 13 rfl rfl)
theorem dL_law_149 : decode cL_law 149 = .ok (.invokevirtual 27, 3) := dk_182 0 27 (dk_at dksL_law_6 14 rfl rfl)
theorem dL_law_152 : decode cL_law 152 = .ok (.aload_n 2, 1) := dk_44 (dk_at dksL_law_6 17 rfl rfl)
theorem dL_law_153 : decode cL_law 153 = .ok (.aload_n 0, 1) := dk_42 (dk_at dksL_law_6 18 rfl rfl)
theorem dL_law_154 : decode cL_law 154 = .ok (.iload_n 3, 1) := dk_29 (dk_at dksL_law_6 19 rfl rfl)
theorem dL_law_155 : decode cL_law 155 = .ok (.iconst 1, 1) := dk_4 (dk_at dksL_law_6 20 rfl rfl)
theorem dL_law_156 : decode cL_law 156 = .ok (.iadd, 1) := dk_96 (dk_at dksL_law_6 21 rfl rfl)
theorem dL_law_157 : decode cL_law 157 = .ok (.iaload, 1) := dk_46 (dk_at dksL_law_6 22 rfl rfl)
theorem dL_law_158 : decode cL_law 158 = .ok (.invokevirtual 30, 3) := dk_182 0 30 (dk_at dksL_law_7 0 rfl rfl)
theorem dL_law_161 : decode cL_law 161 = .ok (.if_icmp .eq 5, 3) := dk_159 0 5 (dk_at dksL_law_7 3 rfl rfl)
theorem dL_law_164 : decode cL_law 164 = .ok (.iconst 0, 1) := dk_3 (dk_at dksL_law_7 6 rfl rfl)
theorem dL_law_165 : decode cL_law 165 = .ok (.ireturn, 1) := dk_172 (dk_at dksL_law_7 7 rfl rfl)
theorem dL_law_166 : decode cL_law 166 = .ok (.iinc 3 6, 3) := dk_132 3 6 (dk_at dksL_law_7 8 rfl rfl)
theorem dL_law_169 : decode cL_law 169 = .ok (.goto (-151), 3) := dk_167 255 105 (dk_at dksL_law_7 11 rfl rfl)
theorem dL_law_172 : decode cL_law 172 = .ok (.iconst 1, 1) := dk_4 (dk_at dksL_law_7 14 rfl rfl)
theorem dL_law_173 : decode cL_law 173 = .ok (.ireturn, 1) := dk_172 (dk_at dksL_law_7 15 rfl rfl)
theorem q2 : (Jvm.Cond.initialized "BchDeskLaw") ∈ lw_all := lw_g (lw_at lw_m0 0 rfl) rfl
set_option maxRecDepth 100000
theorem q11 : (Jvm.Cond.classLink "BchDeskLaw" (7 : Nat) "BchDesk") ∈ lw_all := lw_g (lw_at lw_m0 9 rfl) rfl
theorem q13 : (Jvm.Cond.methodLink "BchDeskLaw" (9 : Nat) ({ cls := "BchDesk", name := "<init>", desc := "()V" } : Jvm.MethodName)) ∈ lw_all := lw_g (lw_at lw_m0 11 rfl) rfl
theorem q20 : (Jvm.Cond.methodLink "BchDeskLaw" (13 : Nat) ({ cls := "BchDesk", name := "highest", desc := "(I)I" } : Jvm.MethodName)) ∈ lw_all := lw_g (lw_at lw_m0 18 rfl) rfl
theorem q31 : (Jvm.Cond.methodLink "BchDeskLaw" (18 : Nat) ({ cls := "BchDesk", name := "rest", desc := "(II)I" } : Jvm.MethodName)) ∈ lw_all := lw_g (lw_at lw_m0 29 rfl) rfl
theorem q106 : (Jvm.Cond.methodLink "BchDeskLaw" (23 : Nat) ({ cls := "BchDesk", name := "format", desc := "(I)I" } : Jvm.MethodName)) ∈ lw_all := lw_g (lw_at lw_m0 104 rfl) rfl
theorem q110 : (Jvm.Cond.methodLink "BchDeskLaw" (27 : Nat) ({ cls := "BchDesk", name := "version", desc := "(I)I" } : Jvm.MethodName)) ∈ lw_all := lw_g (lw_at lw_m0 108 rfl) rfl
theorem q115 : (Jvm.Cond.classLink "BchDeskLaw" (10 : Nat) "BchDeskModel") ∈ lw_all := lw_g (lw_at lw_m0 113 rfl) rfl
theorem q117 : (Jvm.Cond.methodLink "BchDeskLaw" (12 : Nat) ({ cls := "BchDeskModel", name := "<init>", desc := "()V" } : Jvm.MethodName)) ∈ lw_all := lw_g (lw_at lw_m0 115 rfl) rfl
theorem q122 : (Jvm.Cond.methodLink "BchDeskLaw" (17 : Nat) ({ cls := "BchDeskModel", name := "highest", desc := "(I)I" } : Jvm.MethodName)) ∈ lw_all := lw_g (lw_at lw_m0 120 rfl) rfl
theorem q126 : (Jvm.Cond.methodLink "BchDeskLaw" (22 : Nat) ({ cls := "BchDeskModel", name := "rest", desc := "(II)I" } : Jvm.MethodName)) ∈ lw_all := lw_g (lw_at lw_m0 124 rfl) rfl
theorem q136 : (Jvm.Cond.methodLink "BchDeskLaw" (26 : Nat) ({ cls := "BchDeskModel", name := "format", desc := "(I)I" } : Jvm.MethodName)) ∈ lw_all := lw_g (lw_at lw_m0 134 rfl) rfl
theorem q140 : (Jvm.Cond.methodLink "BchDeskLaw" (30 : Nat) ({ cls := "BchDeskModel", name := "version", desc := "(I)I" } : Jvm.MethodName)) ∈ lw_all := lw_g (lw_at lw_m0 138 rfl) rfl
end
section
/-! THE PLAIN LAW: no machine in sight. Ints by their numbers (nI n, n < 2^32), the length of a number in bits, the rest of a division over two elements -/
/-! rows of kit/laws/BITS.to-paste.lean.txt -/
def bt (x : Int32) (i : Nat) : Bool := x.toBitVec.getLsbD i
theorem b_ext {x y : Int32} (h : ∀ i, i < 32 → bt x i = bt y i) : x = y := Int32.toBitVec_inj.mp (BitVec.eq_of_getLsbD_eq (fun i hi => h i hi))
theorem s_l : ∀ n, n < 32 → ((nI n &&& 31).toBitVec.smod 32).toNat = n := by decide +kernel
theorem b_shl (n : Nat) (hn : n < 32) (x : Int32) {i : Nat} (hi : i < 32) : bt (x <<< (nI n &&& 31)) i = (decide (n ≤ i) && bt x (i - n)) := by
  unfold bt
  rw [Int32.toBitVec_shiftLeft]
  show (x.toBitVec <<< ((nI n &&& 31).toBitVec.smod 32).toNat).getLsbD i = _
  rw [s_l n hn, BitVec.getLsbD_shiftLeft]
  rcases Nat.lt_or_ge i n with h | h
  · simp [h, Nat.not_le.mpr h]
  · simp [hi, h, Nat.not_lt.mpr h]
theorem nx_and (a b : Nat) : nI a &&& nI b = nI (a &&& b) := by
  apply Int32.toBitVec_inj.1
  show BitVec.ofNat 32 a &&& BitVec.ofNat 32 b = BitVec.ofNat 32 (a &&& b)
  apply BitVec.eq_of_getLsbD_eq
  intro i hi
  simp [hi]
theorem nx_xor (a b : Nat) : nI a ^^^ nI b = nI (a ^^^ b) := by
  apply Int32.toBitVec_inj.1
  show BitVec.ofNat 32 a ^^^ BitVec.ofNat 32 b = BitVec.ofNat 32 (a ^^^ b)
  apply BitVec.eq_of_getLsbD_eq
  intro i hi
  simp [hi]
theorem nx_cnt : ∀ j : Fin 32, (UInt32.ofNat j.val &&& Int32.toUInt32 31).toNat % 32 = j.val := by decide +kernel
theorem wb_of32 (x : Int32) : ∃ n, n < 2 ^ 32 ∧ x = nI n := ⟨x.toBitVec.toNat, x.toBitVec.isLt, Int32.toBitVec_inj.mp (by show _ = BitVec.ofNat 32 _; simp)⟩
/-! ints by their numbers -/
theorem bc_u {n : Nat} (hn : n < 4294967296) : (nI n).toBitVec.toNat = n := by
  show (BitVec.ofNat 32 n).toNat = n
  rw [BitVec.toNat_ofNat]
  exact Nat.mod_eq_of_lt hn
theorem bc_inj {a b : Nat} (ha : a < 4294967296) (hb : b < 4294967296) (h : nI a = nI b) : a = b :=
  (bc_u ha).symm.trans ((congrArg (fun x : Int32 => x.toBitVec.toNat) h).trans (bc_u hb))
theorem bc_toInt {n : Nat} (hn : n < 4294967296) : (nI n).toInt = if n < 2147483648 then (n : Int) else (n : Int) - 4294967296 := by
  have h := BitVec.toInt_eq_toNat_cond (BitVec.ofNat 32 n)
  rw [BitVec.toNat_ofNat, Nat.mod_eq_of_lt (show n < 2 ^ 32 from hn)] at h
  show (BitVec.ofNat 32 n).toInt = _
  rw [h]
  by_cases g : n < 2147483648
  · rw [if_pos g, if_pos (by omega)]
  · rw [if_neg g, if_neg (by omega)]
    omega
theorem bc_pos {n : Nat} (hn : n < 4294967296) : (0 : Int32) < nI n ↔ 0 < n ∧ n < 2147483648 := by
  rw [Int32.lt_iff_toInt_lt, bc_toInt hn, Int32.toInt_zero]
  by_cases g : n < 2147483648
  · rw [if_pos g]
    omega
  · rw [if_neg g]
    omega
theorem bc_zero {n : Nat} (hn : n < 4294967296) : nI n = 0 ↔ n = 0 :=
  ⟨fun h => bc_inj hn (by decide) (h.trans nI_0.symm), fun h => by rw [h]; exact nI_0⟩
theorem bc_sub {a b : Nat} (h : b ≤ a) : nI a - nI b = nI (a - b) := (Int32.ofNat_sub a b h).symm
theorem bc_dec {k c : Nat} {z : Int} (h : c ≤ k) (hz : Int32.ofInt z + nI c = 0) : nI k + Int32.ofInt z = nI (k - c) := by
  have e : nI k = nI (k - c) + nI c := by rw [nI_add, Nat.sub_add_cancel h]
  rw [e, Int32.add_assoc, Int32.add_comm (nI c), hz, Int32.add_zero]
theorem bc_inc {k c : Nat} {z : Int} (hz : Int32.ofInt z = nI c) : nI k + Int32.ofInt z = nI (k + c) := by rw [hz, nI_add]
theorem bc_ush {k j : Nat} (hk : k < 4294967296) (hj : j < 32) : ((nI k).toUInt32 >>> ((nI j).toUInt32 &&& Int32.toUInt32 31)).toInt32 = nI (k >>> j) := by
  have hs : k >>> j ≤ k := by
    rw [Nat.shiftRight_eq_div_pow]
    exact Nat.div_le_self _ _
  have e2 : UInt32.ofNat k >>> (UInt32.ofNat j &&& Int32.toUInt32 31) = UInt32.ofNat (k >>> j) := by
    apply UInt32.toNat_inj.1
    have h1 : (UInt32.ofNat k).toNat = k := Nat.mod_eq_of_lt hk
    have h2 : (UInt32.ofNat (k >>> j)).toNat = k >>> j := Nat.mod_eq_of_lt (Nat.lt_of_le_of_lt hs hk)
    rw [UInt32.toNat_shiftRight, nx_cnt ⟨j, hj⟩, h1, h2]
  show (UInt32.ofNat k >>> (UInt32.ofNat j &&& Int32.toUInt32 31)).toInt32 = _
  rw [e2]
  rfl
theorem bc_shl (a : Nat) {j : Nat} (hj : j < 32) : nI a <<< (nI j &&& 31) = nI (a <<< j) := by
  apply b_ext
  intro i hi
  rw [b_shl j hj _ hi]
  show (decide (j ≤ i) && (BitVec.ofNat 32 a).getLsbD (i - j)) = (BitVec.ofNat 32 (a <<< j)).getLsbD i
  have h2 : i - j < 32 := by omega
  rw [BitVec.getLsbD_ofNat, BitVec.getLsbD_ofNat, Nat.testBit_shiftLeft, decide_eq_true hi, decide_eq_true h2, Bool.true_and, Bool.true_and]
theorem bc_mask (a : Nat) (k : Nat) : nI a &&& nI (2 ^ k - 1) = nI (a % 2 ^ k) := by
  rw [nx_and, Nat.and_two_pow_sub_one_eq_mod]
theorem bc_mod {m k : Nat} (h : m < 2147483648) (h0 : 0 < k) (hk : k < 2147483648) : nI m - nI m / nI k * nI k = nI (m % k) := by
  apply Int32.toInt_inj.mp
  rw [rem_toInt, nI_toInt h, nI_toInt hk, nI_toInt (Nat.lt_trans (Nat.mod_lt m h0) hk)]
  exact (Int.ofNat_tmod m k).symm
theorem bc_bit (n k : Nat) : nI ((n >>> k) &&& 1) = nI 1 ↔ n.testBit k = true := by
  have h1 : n / 2 ^ k % 2 < 2 ^ 31 := Nat.lt_of_lt_of_le (Nat.mod_lt _ (by decide)) (by decide)
  rw [Nat.and_one_is_mod, Nat.shiftRight_eq_div_pow, nI_eq h1 (by decide), Nat.testBit_eq_decide_div_mod_eq, decide_eq_true_iff]
/-! the length in bits -/
def bc_len (n : Nat) : Nat := if n = 0 then 0 else n.log2 + 1
theorem bc_len_le {n k : Nat} : bc_len n ≤ k ↔ n < 2 ^ k := by
  unfold bc_len
  by_cases h : n = 0
  · rw [if_pos h]
    exact ⟨fun _ => by rw [h]; exact Nat.two_pow_pos k, fun _ => Nat.zero_le _⟩
  · rw [if_neg h]
    exact Nat.log2_lt h
theorem bc_lt_len {n k : Nat} : k < bc_len n ↔ 2 ^ k ≤ n := by
  constructor
  · intro h
    rcases Nat.lt_or_ge n (2 ^ k) with q | q
    · exact absurd (bc_len_le.mpr q) (Nat.not_le.mpr h)
    · exact q
  · intro h
    rcases Nat.lt_or_ge k (bc_len n) with q | q
    · exact q
    · exact absurd (bc_len_le.mp q) (Nat.not_lt.mpr h)
theorem bc_len_eq {n k : Nat} (h1 : 2 ^ k ≤ n) (h2 : n < 2 ^ (k + 1)) : bc_len n = k + 1 := by
  have a := bc_lt_len.mpr h1
  have b := bc_len_le.mpr h2
  omega
theorem bc_len_div {a B : Nat} (h : 2 ^ B ≤ a) : bc_len (a / 2 ^ B) + B = bc_len a := by
  obtain ⟨j, hj⟩ : ∃ j, bc_len a = B + j + 1 := by
    have := bc_lt_len.mpr h
    exact ⟨bc_len a - B - 1, by omega⟩
  have h1 : 2 ^ (B + j) ≤ a := bc_lt_len.mp (by omega)
  have h2 : a < 2 ^ (B + j + 1) := bc_len_le.mp (by omega)
  have e1 : 2 ^ (B + j) = 2 ^ j * 2 ^ B := by rw [← Nat.pow_add, Nat.add_comm]
  have e2 : 2 ^ (B + j + 1) = 2 ^ (j + 1) * 2 ^ B := by rw [← Nat.pow_add, show B + j + 1 = j + 1 + B by omega]
  have hp : 0 < 2 ^ B := Nat.two_pow_pos B
  have g1 : 2 ^ j ≤ a / 2 ^ B := (Nat.le_div_iff_mul_le hp).mpr (by rw [← e1]; exact h1)
  have g2 : a / 2 ^ B < 2 ^ (j + 1) := (Nat.div_lt_iff_lt_mul hp).mpr (by rw [← e2]; exact h2)
  rw [bc_len_eq g1 g2, hj]
  omega
theorem bc_len_0 : bc_len 0 = 0 := rfl
theorem bc_len32 {n : Nat} (h : n < 4294967296) : bc_len n ≤ 32 := bc_len_le.mpr h
theorem bc_len31 {n : Nat} (h : n < 2147483648) : bc_len n ≤ 31 := bc_len_le.mpr h
theorem bc_len_neg {n : Nat} (h : n < 4294967296) (h2 : 2147483648 ≤ n) : bc_len n = 32 := bc_len_eq (k := 31) h2 h
theorem bc_len_step (n k : Nat) : bc_len (n % 2 ^ (k + 1)) = if n.testBit k = true then k + 1 else bc_len (n % 2 ^ k) := by
  by_cases h : n.testBit k = true
  · rw [if_pos h]
    have h1 : (n % 2 ^ (k + 1)).testBit k = true := by
      rw [Nat.testBit_mod_two_pow, h]
      simp
    exact bc_len_eq (Nat.ge_two_pow_of_testBit h1) (Nat.mod_lt _ (Nat.two_pow_pos _))
  · rw [if_neg h]
    have e : n % 2 ^ (k + 1) = n % 2 ^ k := by
      apply Nat.eq_of_testBit_eq
      intro i
      rw [Nat.testBit_mod_two_pow, Nat.testBit_mod_two_pow]
      rcases Nat.lt_trichotomy i k with q | q | q
      · rw [decide_eq_true q, decide_eq_true (show i < k + 1 by omega)]
      · rw [q]
        simp [h]
      · rw [decide_eq_false (show ¬ i < k by omega), decide_eq_false (show ¬ i < k + 1 by omega)]
    rw [e]
/-! numberOfLeadingZeros: what holds between its halvings -/
def bc_J (n B a k : Nat) : Prop := 0 < a ∧ a < 2 ^ B ∧ a < 2147483648 ∧ n < 2147483648 ∧ k + bc_len n = 31 + bc_len a
theorem bc_J.keep {n B a k C : Nat} (h : bc_J n B a k) (hC : a < 2 ^ C) : bc_J n C a k := ⟨h.1, hC, h.2.2⟩
theorem bc_J.cut {n B a k : Nat} (C : Nat) (h : bc_J n B a k) (hB : B = C + C) (hC : ¬ a < 2 ^ C) : C ≤ k ∧ bc_J n C (a >>> C) (k - C) := by
  obtain ⟨h1, h2, h3, h4, h5⟩ := h
  subst hB
  have hge : 2 ^ C ≤ a := Nat.not_lt.mp hC
  have hp : 0 < 2 ^ C := Nat.two_pow_pos C
  have e := bc_len_div hge
  have l1 := bc_lt_len.mpr hge
  have l2 := bc_len31 h4
  rw [Nat.shiftRight_eq_div_pow]
  refine ⟨by omega, Nat.div_pos hge hp, (Nat.div_lt_iff_lt_mul hp).mpr (by rw [← Nat.pow_add]; exact h2), Nat.lt_of_le_of_lt (Nat.div_le_self _ _) h3, h4, by omega⟩
theorem bc_J.last {n a k : Nat} (h : bc_J n 2 a k) : a >>> 1 ≤ k ∧ k - a >>> 1 = 32 - bc_len n := by
  obtain ⟨h1, h2, h3, h4, h5⟩ := h
  have l2 := bc_len31 h4
  have h2 : a < 4 := h2
  rcases (show a = 1 ∨ a = 2 ∨ a = 3 by omega) with rfl | rfl | rfl
  · rw [show bc_len 1 = 1 by decide +kernel] at h5
    rw [show 1 >>> 1 = 0 from rfl]
    omega
  · rw [show bc_len 2 = 2 by decide +kernel] at h5
    rw [show 2 >>> 1 = 1 from rfl]
    omega
  · rw [show bc_len 3 = 2 by decide +kernel] at h5
    rw [show 3 >>> 1 = 1 from rfl]
    omega
/-! the rest of the division of w by q (of degree e), from the place e + k - 1 down to e -/
def bc_red (q e : Nat) : Nat → Nat → Nat
  | 0, w => w
  | k + 1, w => bc_red q e k (if w.testBit (e + k) = true then w ^^^ (q <<< k) else w)
theorem bc_red_0 (q e w : Nat) : bc_red q e 0 w = w := rfl
theorem bc_red_s (q e k w : Nat) : bc_red q e (k + 1) w = bc_red q e k (if w.testBit (e + k) = true then w ^^^ (q <<< k) else w) := rfl
theorem bc_red_low (q e : Nat) : ∀ (j k w : Nat), w < 2 ^ (e + k) → k ≤ j → bc_red q e j w = bc_red q e k w := by
  intro j
  induction j with
  | zero =>
    intro k w _ h
    rw [show k = 0 by omega]
  | succ j ih =>
    intro k w hw h
    rcases Nat.lt_or_ge j k with q1 | q1
    · rw [show k = j + 1 by omega]
    · have hb : w.testBit (e + j) = false := Nat.testBit_lt_two_pow (Nat.lt_of_lt_of_le hw (Nat.pow_le_pow_right (by decide) (by omega)))
      rw [bc_red_s, if_neg (by rw [hb]; decide)]
      exact ih k w hw q1
theorem bc_red_top {q e k w : Nat} (h1 : 2 ^ (e + k) ≤ w) (h2 : w < 2 ^ (e + k + 1)) : bc_red q e (k + 1) w = bc_red q e k (w ^^^ (q <<< k)) := by
  rw [bc_red_s, if_pos (Nat.testBit_of_two_pow_le_and_two_pow_add_one_gt h1 h2)]
theorem bc_shl_lt {q j k : Nat} (h : q < 2 ^ j) : q <<< k < 2 ^ (j + k) := by
  rw [Nat.shiftLeft_eq, Nat.pow_add]
  exact Nat.mul_lt_mul_of_pos_right h (Nat.two_pow_pos k)
theorem bc_shl_ge {q j k : Nat} (h : 2 ^ j ≤ q) : 2 ^ (j + k) ≤ q <<< k := by
  rw [Nat.shiftLeft_eq, Nat.pow_add]
  exact Nat.mul_le_mul_right _ h
theorem bc_xor_lt {a b j : Nat} (a1 : 2 ^ j ≤ a) (a2 : a < 2 ^ (j + 1)) (b1 : 2 ^ j ≤ b) (b2 : b < 2 ^ (j + 1)) : a ^^^ b < 2 ^ j := by
  apply Nat.lt_pow_two_of_testBit
  intro i hi
  rw [Nat.testBit_xor]
  rcases Nat.lt_or_ge j i with q | q
  · have up : 2 ^ (j + 1) ≤ 2 ^ i := Nat.pow_le_pow_right (by decide) (by omega)
    rw [Nat.testBit_lt_two_pow (Nat.lt_of_lt_of_le a2 up), Nat.testBit_lt_two_pow (Nat.lt_of_lt_of_le b2 up)]
    rfl
  · rw [show i = j by omega, Nat.testBit_of_two_pow_le_and_two_pow_add_one_gt a1 a2, Nat.testBit_of_two_pow_le_and_two_pow_add_one_gt b1 b2]
    rfl
/-- the division of both sides: a times x to the degree of q, divided by q -/
def bc_rem (a q : Nat) : Nat := bc_red q (bc_len q - 1) (33 - bc_len q) (a <<< (bc_len q - 1))
def bc_fmt (x : Nat) : Int32 := ((nI (x % 32) <<< (nI 10 &&& 31)) ||| nI (bc_rem (x % 32) 1335)) ^^^ nI 21522
def bc_ver (x : Nat) : Int32 := (nI (7 + x % 2147483648 % 34) <<< (nI 12 &&& 31)) ||| nI (bc_rem (7 + x % 2147483648 % 34) 7973)
/-- the law's own loop: its test -/
theorem bc_room {i L : Nat} (hL : L ≤ 288) (hi : i ≤ L) : nI L - nI 6 < nI i ↔ L < i + 6 := by
  rcases Nat.lt_or_ge L 6 with q | q
  · have h1 : ∀ L, L < 6 → (nI L - nI 6).toInt < 0 := by decide +kernel
    have h2 := h1 L q
    rw [Int32.lt_iff_toInt_lt, nI_toInt (show i < 2 ^ 31 by omega)]
    omega
  · rw [bc_sub q, nI_ltI (by omega) (by omega)]
    omega
end
section
/-! THE SYSTEM: contracts of numberOfLeadingZeros, findMSBSet, calculateBCHCode, BchDesk. None of them writes: the heap is the same behind each -/
set_option maxRecDepth 100000
abbrev wsJ0_nlz : List Cond := ws_ yJ0_numberOfLeadingZeros cJ0_numberOfLeadingZeros 2 (some .int)
abbrev wsX2_msb : List Cond := ws_ yX2_findMSBSet cX2_findMSBSet 1 (some .int)
abbrev wsX2_bch : List Cond := ws_ yX2_calculateBCHCode cX2_calculateBCHCode 3 (some .int)
abbrev wsX0_init : List Cond := ws_ yX0_init cX0_init 1 none
abbrev wsX0_highest : List Cond := ws_ yX0_highest cX0_highest 2 (some .int)
abbrev wsX0_rest : List Cond := ws_ yX0_rest cX0_rest 4 (some .int)
abbrev wsX0_format : List Cond := ws_ yX0_format cX0_format 3 (some .int)
abbrev wsX0_version : List Cond := ws_ yX0_version cX0_version 3 (some .int)
/-- a method's start that asks for its arguments alone -/
def bc_Pc (av : List Value) : Array Value → State → Prop := fun v _ => v = av.toArray
theorem bc_pre {s : State} {H : Heap} {As : List Value} : PreS s H (bc_Pc As) As := ⟨fun _ _ _ _ q => q, fun _ _ _ => rfl⟩
theorem bc_preV {s : State} {H : Heap} {C : String} {b : Nat} {As : List Value} (h : ∃ cell : Cell, H[b]? = some cell ∧ cell.vm.isStatics = false ∧ s.vm.findClass C = some cell.cls) : PreV s H C b (bc_Pc (.ref b :: As)) As := ⟨fun _ _ _ _ q => q, h, fun _ _ _ => rfl⟩
section NLZ
variable {p : Program} {l : Launch} {e : Env} {R : Room} {s : State} {m : MethodId} {args : Array Value} {below : List Frame} {meth : Method} {c : Code} {H : Heap} {locs : List Loc} {cells slots : Nat} {Q : State → Prop} {n : Nat}
theorem nz_18 (hx : p.tables.exec = Jvm.exec) (hb : c.code = cJ0_numberOfLeadingZeros) (hown : s.vm.findClass RJ0 = some m.cls) (hts : ∀ w ∈ lw_all, w.before args s = true)
    (K : ∀ (a k : Nat) (ls : Array Slot), bc_J n 16 a k → lv_has ls 2 [(0, .int (nI a)), (1, .int (nI k))] → W p l e R s m args below meth c H locs cells slots Q (F0 m 33 ls [])) :
    ∀ (a k : Nat) (ls : Array Slot), bc_J n 32 a k → lv_has ls 2 [(0, .int (nI a)), (1, .int (nI k))] → W p l e R s m args below meth c H locs cells slots Q (F0 m 18 ls []) := by
  intro a k ls J hl
  have ha : a < 2 ^ 31 := J.2.2.1
  refine lv_iload_n hx hb dJ0_numberOfLeadingZeros_18 rfl (lv_at hl 0 rfl) ?_
  refine lv_ldcw (v := nI 65536) hx hb hown (hts _ q30) dJ0_numberOfLeadingZeros_19 ?_
  refine lv_icmp_lt (tgt := 33) hx hb dJ0_numberOfLeadingZeros_22 (by decide) (fun h => ?_) (fun h => ?_)
  · exact K a k ls (J.keep ((nI_ltI ha (by decide)).mp h)) hl
  · obtain ⟨hk, J2⟩ := J.cut 16 rfl (fun q => h ((nI_ltI ha (by decide)).mpr q))
    refine lv_iinc (v := nI (k - 16)) (lv' := [(1, .int (nI (k - 16))), (0, .int (nI a))]) hx hb dJ0_numberOfLeadingZeros_25 hl (k := 1) rfl (bc_dec hk (by decide +kernel)) (by decide) rfl (fun ls hl => ?_)
    refine lv_iload_n hx hb dJ0_numberOfLeadingZeros_28 rfl (lv_at hl 1 rfl) ?_
    refine lv_bipush (v := nI 16) hx hb dJ0_numberOfLeadingZeros_29 (by decide +kernel) ?_
    refine lv_iushr (v := nI (a >>> 16)) hx hb dJ0_numberOfLeadingZeros_31 (bc_ush (by omega) (by omega)) ?_
    refine lv_istore_n (lv' := [(0, .int (nI (a >>> 16))), (1, .int (nI (k - 16)))]) hx hb dJ0_numberOfLeadingZeros_32 rfl hl (by decide) rfl (fun ls hl => ?_)
    exact K _ _ ls J2 hl
theorem nz_33 (hx : p.tables.exec = Jvm.exec) (hb : c.code = cJ0_numberOfLeadingZeros)
    (K : ∀ (a k : Nat) (ls : Array Slot), bc_J n 8 a k → lv_has ls 2 [(0, .int (nI a)), (1, .int (nI k))] → W p l e R s m args below meth c H locs cells slots Q (F0 m 48 ls [])) :
    ∀ (a k : Nat) (ls : Array Slot), bc_J n 16 a k → lv_has ls 2 [(0, .int (nI a)), (1, .int (nI k))] → W p l e R s m args below meth c H locs cells slots Q (F0 m 33 ls []) := by
  intro a k ls J hl
  have ha : a < 2 ^ 31 := J.2.2.1
  refine lv_iload_n hx hb dJ0_numberOfLeadingZeros_33 rfl (lv_at hl 0 rfl) ?_
  refine lv_sipush (v := nI 256) hx hb dJ0_numberOfLeadingZeros_34 (by decide +kernel) ?_
  refine lv_icmp_lt (tgt := 48) hx hb dJ0_numberOfLeadingZeros_37 (by decide) (fun h => ?_) (fun h => ?_)
  · exact K a k ls (J.keep ((nI_ltI ha (by decide)).mp h)) hl
  · obtain ⟨hk, J2⟩ := J.cut 8 rfl (fun q => h ((nI_ltI ha (by decide)).mpr q))
    refine lv_iinc (v := nI (k - 8)) (lv' := [(1, .int (nI (k - 8))), (0, .int (nI a))]) hx hb dJ0_numberOfLeadingZeros_40 hl (k := 1) rfl (bc_dec hk (by decide +kernel)) (by decide) rfl (fun ls hl => ?_)
    refine lv_iload_n hx hb dJ0_numberOfLeadingZeros_43 rfl (lv_at hl 1 rfl) ?_
    refine lv_bipush (v := nI 8) hx hb dJ0_numberOfLeadingZeros_44 (by decide +kernel) ?_
    refine lv_iushr (v := nI (a >>> 8)) hx hb dJ0_numberOfLeadingZeros_46 (bc_ush (by omega) (by omega)) ?_
    refine lv_istore_n (lv' := [(0, .int (nI (a >>> 8))), (1, .int (nI (k - 8)))]) hx hb dJ0_numberOfLeadingZeros_47 rfl hl (by decide) rfl (fun ls hl => ?_)
    exact K _ _ ls J2 hl
theorem nz_48 (hx : p.tables.exec = Jvm.exec) (hb : c.code = cJ0_numberOfLeadingZeros)
    (K : ∀ (a k : Nat) (ls : Array Slot), bc_J n 4 a k → lv_has ls 2 [(0, .int (nI a)), (1, .int (nI k))] → W p l e R s m args below meth c H locs cells slots Q (F0 m 61 ls [])) :
    ∀ (a k : Nat) (ls : Array Slot), bc_J n 8 a k → lv_has ls 2 [(0, .int (nI a)), (1, .int (nI k))] → W p l e R s m args below meth c H locs cells slots Q (F0 m 48 ls []) := by
  intro a k ls J hl
  have ha : a < 2 ^ 31 := J.2.2.1
  refine lv_iload_n hx hb dJ0_numberOfLeadingZeros_48 rfl (lv_at hl 0 rfl) ?_
  refine lv_bipush (v := nI 16) hx hb dJ0_numberOfLeadingZeros_49 (by decide +kernel) ?_
  refine lv_icmp_lt (tgt := 61) hx hb dJ0_numberOfLeadingZeros_51 (by decide) (fun h => ?_) (fun h => ?_)
  · exact K a k ls (J.keep ((nI_ltI ha (by decide)).mp h)) hl
  · obtain ⟨hk, J2⟩ := J.cut 4 rfl (fun q => h ((nI_ltI ha (by decide)).mpr q))
    refine lv_iinc (v := nI (k - 4)) (lv' := [(1, .int (nI (k - 4))), (0, .int (nI a))]) hx hb dJ0_numberOfLeadingZeros_54 hl (k := 1) rfl (bc_dec hk (by decide +kernel)) (by decide) rfl (fun ls hl => ?_)
    refine lv_iload_n hx hb dJ0_numberOfLeadingZeros_57 rfl (lv_at hl 1 rfl) ?_
    refine lv_iconst (v := nI 4) hx hb dJ0_numberOfLeadingZeros_58 (by decide +kernel) ?_
    refine lv_iushr (v := nI (a >>> 4)) hx hb dJ0_numberOfLeadingZeros_59 (bc_ush (by omega) (by omega)) ?_
    refine lv_istore_n (lv' := [(0, .int (nI (a >>> 4))), (1, .int (nI (k - 4)))]) hx hb dJ0_numberOfLeadingZeros_60 rfl hl (by decide) rfl (fun ls hl => ?_)
    exact K _ _ ls J2 hl
theorem nz_61 (hx : p.tables.exec = Jvm.exec) (hb : c.code = cJ0_numberOfLeadingZeros)
    (K : ∀ (a k : Nat) (ls : Array Slot), bc_J n 2 a k → lv_has ls 2 [(0, .int (nI a)), (1, .int (nI k))] → W p l e R s m args below meth c H locs cells slots Q (F0 m 73 ls [])) :
    ∀ (a k : Nat) (ls : Array Slot), bc_J n 4 a k → lv_has ls 2 [(0, .int (nI a)), (1, .int (nI k))] → W p l e R s m args below meth c H locs cells slots Q (F0 m 61 ls []) := by
  intro a k ls J hl
  have ha : a < 2 ^ 31 := J.2.2.1
  refine lv_iload_n hx hb dJ0_numberOfLeadingZeros_61 rfl (lv_at hl 0 rfl) ?_
  refine lv_iconst (v := nI 4) hx hb dJ0_numberOfLeadingZeros_62 (by decide +kernel) ?_
  refine lv_icmp_lt (tgt := 73) hx hb dJ0_numberOfLeadingZeros_63 (by decide) (fun h => ?_) (fun h => ?_)
  · exact K a k ls (J.keep ((nI_ltI ha (by decide)).mp h)) hl
  · obtain ⟨hk, J2⟩ := J.cut 2 rfl (fun q => h ((nI_ltI ha (by decide)).mpr q))
    refine lv_iinc (v := nI (k - 2)) (lv' := [(1, .int (nI (k - 2))), (0, .int (nI a))]) hx hb dJ0_numberOfLeadingZeros_66 hl (k := 1) rfl (bc_dec hk (by decide +kernel)) (by decide) rfl (fun ls hl => ?_)
    refine lv_iload_n hx hb dJ0_numberOfLeadingZeros_69 rfl (lv_at hl 1 rfl) ?_
    refine lv_iconst (v := nI 2) hx hb dJ0_numberOfLeadingZeros_70 (by decide +kernel) ?_
    refine lv_iushr (v := nI (a >>> 2)) hx hb dJ0_numberOfLeadingZeros_71 (bc_ush (by omega) (by omega)) ?_
    refine lv_istore_n (lv' := [(0, .int (nI (a >>> 2))), (1, .int (nI (k - 2)))]) hx hb dJ0_numberOfLeadingZeros_72 rfl hl (by decide) rfl (fun ls hl => ?_)
    exact K _ _ ls J2 hl
end NLZ
set_option maxHeartbeats 4000000 in
/-- Integer.numberOfLeadingZeros(n): 32 less the length of n -/
theorem met_nlz (l : Launch) (n : Nat) (hn : n < 4294967296) : Met l yJ0_numberOfLeadingZeros wsJ0_nlz ({ frames := 0, cells := 0, slots := 0, locals := 0 }) (bc_Pc [.int (nI n)]) (vp_Si (fun r => r = nI (32 - bc_len n))) 0 0 (fun _ => False) := by
  refine Met.ofW (cc := cJ0_numberOfLeadingZeros) (maxL := 2) (ret := (some .int)) (by decide) rfl ?_
  intro p e s m args below meth c s₁ B hml hv
  obtain rfl : args = ([.int (nI n)] : List Value).toArray := hv
  have hx := B.exec
  have hb := B.bytes
  have hr := B.returns
  have hts := atoms_spec (ws := wsJ0_nlz) B.pre
  have hts : ∀ w ∈ lw_all, w.before _ s = true := fun w h => hts w (List.mem_cons_of_mem _ h)
  have hown : s.vm.findClass RJ0 = some m.cls := findClass_of_methodNamed B.named
  have hlocks := B.notSynchronized
  have hl := lv_entry ([.int (nI n)]) (n := 2) (Nat.le_of_ble_eq_true rfl)
  rw [lg_entry_eq]
  generalize (lg_sl ([.int (nI n)]) ++ List.replicate (2 - (lg_sl ([.int (nI n)])).length) Slot.unset).toArray = ls at hl ⊢
  have hl : lv_has ls 2 [(0, .int (nI n))] := hl
  refine lv_iload_n hx hb dJ0_numberOfLeadingZeros_0 rfl (lv_at hl 0 rfl) ?_
  refine lv_if_gt (tgt := 15) hx hb dJ0_numberOfLeadingZeros_1 (by decide) (fun h => ?_) (fun h => ?_)
  · obtain ⟨h0, h31⟩ := (bc_pos hn).mp h
    refine lv_bipush (v := nI 31) hx hb dJ0_numberOfLeadingZeros_15 (by decide +kernel) ?_
    refine lv_istore_n (lv' := [(1, .int (nI 31)), (0, .int (nI n))]) hx hb dJ0_numberOfLeadingZeros_17 rfl hl (by decide) rfl (fun ls hl => ?_)
    refine nz_18 (n := n) hx hb hown hts (nz_33 hx hb (nz_48 hx hb (nz_61 hx hb (fun a k ls J hl => ?_)))) n 31 ls ⟨h0, hn, h31, h31, rfl⟩ (lv_sub hl [1, 0] rfl)
    obtain ⟨z1, z2⟩ := J.last
    refine lv_iload_n hx hb dJ0_numberOfLeadingZeros_73 rfl (lv_at hl 1 rfl) ?_
    refine lv_iload_n hx hb dJ0_numberOfLeadingZeros_74 rfl (lv_at hl 0 rfl) ?_
    refine lv_iconst (v := nI 1) hx hb dJ0_numberOfLeadingZeros_75 (by decide +kernel) ?_
    refine lv_iushr (v := nI (a >>> 1)) hx hb dJ0_numberOfLeadingZeros_76 (bc_ush (Nat.lt_trans J.2.2.1 (by decide)) (by decide)) ?_
    refine lv_isub hx hb dJ0_numberOfLeadingZeros_77 ?_
    exact W.iret hx hb hr (fun t ht hW => ⟨_, rfl, show nI k - nI (a >>> 1) = nI (32 - bc_len n) by rw [bc_sub z1, z2], ht⟩) (fun q hq => by cases hq) dJ0_numberOfLeadingZeros_78
  · refine lv_iload_n hx hb dJ0_numberOfLeadingZeros_4 rfl (lv_at hl 0 rfl) ?_
    refine lv_if_ne (tgt := 13) hx hb dJ0_numberOfLeadingZeros_5 (by decide) (fun h2 => ?_) (fun h2 => ?_)
    · have hbig : 2147483648 ≤ n := by
        rcases Nat.lt_or_ge n 2147483648 with q | q
        · exact absurd ((bc_pos hn).mpr ⟨Nat.pos_of_ne_zero (fun z => h2 ((bc_zero hn).mpr z)), q⟩) h
        · exact q
      refine lv_iconst (v := nI 0) hx hb dJ0_numberOfLeadingZeros_13 (by decide +kernel) ?_
      exact W.iret hx hb hr (fun t ht hW => ⟨_, rfl, show nI 0 = nI (32 - bc_len n) by rw [bc_len_neg hn hbig], ht⟩) (fun q hq => by cases hq) dJ0_numberOfLeadingZeros_14
    · have hz : n = 0 := (bc_zero hn).mp h2
      refine lv_bipush (v := nI 32) hx hb dJ0_numberOfLeadingZeros_8 (by decide +kernel) ?_
      refine lv_goto (tgt := 14) hx hb dJ0_numberOfLeadingZeros_10 (by decide) ?_
      exact W.iret hx hb hr (fun t ht hW => ⟨_, rfl, show nI 32 = nI (32 - bc_len n) by rw [hz, bc_len_0], ht⟩) (fun q hq => by cases hq) dJ0_numberOfLeadingZeros_14
set_option maxHeartbeats 4000000 in
/-- MatrixUtil.findMSBSet(n): the length of n -/
theorem met_msb (l : Launch) (n : Nat) (hn : n < 4294967296) : Met l yX2_findMSBSet wsX2_msb ({ frames := 1, cells := 0, slots := 0, locals := 21 }) (bc_Pc [.int (nI n)]) (vp_Si (fun r => r = nI (bc_len n))) 0 0 (fun _ => False) := by
  refine Met.ofW (cc := cX2_findMSBSet) (maxL := 1) (ret := (some .int)) (by decide) rfl ?_
  intro p e s m args below meth c s₁ B hml hv
  obtain rfl : args = ([.int (nI n)] : List Value).toArray := hv
  have hx := B.exec
  have hb := B.bytes
  have hr := B.returns
  have hts := atoms_spec (ws := wsX2_msb) B.pre
  have hts : ∀ w ∈ lw_all, w.before _ s = true := fun w h => hts w (List.mem_cons_of_mem _ h)
  have hown : s.vm.findClass RX2 = some m.cls := findClass_of_methodNamed B.named
  have hlocks := B.notSynchronized
  have hl := lv_entry ([.int (nI n)]) (n := 1) (Nat.le_of_ble_eq_true rfl)
  rw [lg_entry_eq]
  generalize (lg_sl ([.int (nI n)]) ++ List.replicate (1 - (lg_sl ([.int (nI n)])).length) Slot.unset).toArray = ls at hl ⊢
  have hl : lv_has ls 1 [(0, .int (nI n))] := hl
  refine lv_bipush (v := nI 32) hx hb dX2_findMSBSet_0 (by decide +kernel) ?_
  refine lv_iload_n hx hb dX2_findMSBSet_2 rfl (lv_at hl 0 rfl) ?_
  refine vp_callSi (W.runS (As := [.int (nI n)]) (rest := [.int (nI 32)]) ⟨hx, hb, hml, hown, hts⟩ (met_nlz l n hn) (va_cwS 1 hts (lw_S q27 q28 q6 q29) rfl rfl rfl (by decide +kernel) ⟨Nat.le_of_ble_eq_true rfl, Nat.le_of_ble_eq_true rfl⟩) bc_pre rfl rfl hl.1 rfl (lv_room (Nat.le_of_ble_eq_true rfl)) dX2_findMSBSet_3 ⟨Nat.le_of_ble_eq_true rfl, Nat.le_of_ble_eq_true rfl⟩) (fun r er => ?_)
  obtain rfl : r = nI (32 - bc_len n) := er
  refine lv_isub hx hb dX2_findMSBSet_6 ?_
  have h32 := bc_len32 hn
  exact W.iret hx hb hr (fun t ht hW => ⟨_, rfl, show nI 32 - nI (32 - bc_len n) = nI (bc_len n) by rw [bc_sub (Nat.sub_le _ _), show 32 - (32 - bc_len n) = bc_len n by omega], ht⟩) (fun q hq => by cases hq) dX2_findMSBSet_7
section BCH
variable {p : Program} {l : Launch} {e : Env} {s : State} {m : MethodId} {below : List Frame} {meth : Method} {c : Code} {ar : Array Value}
set_option maxHeartbeats 4000000 in
/-- calculateBCHCode's loop: w has at most g + j bits, and its rest is X -/
theorem bch_loop {q g X : Nat} (hx : p.tables.exec = Jvm.exec) (hb : c.code = cX2_calculateBCHCode) (hr : meth.sig.returnType = some .int) (hlocks : meth.locks = false) (hml : c.maxLocals = 3) (hown : s.vm.findClass RX2 = some m.cls) (hts : ∀ w ∈ lw_all, w.before ar s = true) (hq1 : 2 ^ g ≤ q) (hq2 : q < 2 ^ (g + 1)) :
    ∀ (j w : Nat) (ls : Array Slot), g + j ≤ 31 → w < 2 ^ (g + j) → bc_red q g j w = X → lv_has ls 3 [(0, .int (nI w)), (1, .int (nI q)), (2, .int (nI (g + 1)))] → W p l e (headSpec wsX2_bch ({ frames := 2, cells := 0, slots := 0, locals := 41 })).room s m ar below meth c s.heap [] 0 0 (MQ below (vp_Si (fun r => r = nI X)) ar s 0 0 (fun _ => False)) (F0 m 25 ls []) := by
  intro j
  induction j using Nat.strongRecOn with
  | ind j ih =>
    intro w ls hj hw eX hl
    have hw31 : w < 2147483648 := Nat.lt_of_lt_of_le hw (show 2 ^ (g + j) ≤ 2 ^ 31 from Nat.pow_le_pow_right (by decide) hj)
    have hw32 : w < 4294967296 := by omega
    have hlen : bc_len w ≤ g + j := bc_len_le.mpr hw
    refine lv_iload_n hx hb dX2_calculateBCHCode_25 rfl (lv_at hl 0 rfl) ?_
    refine vp_callSi (W.runS (As := [.int (nI w)]) (rest := []) ⟨hx, hb, hml, hown, hts⟩ (met_msb l w hw32) (va_cwS 1 hts (lw_S q105 q25 q5 q26) rfl rfl rfl (by decide +kernel) ⟨Nat.le_of_ble_eq_true rfl, Nat.le_of_ble_eq_true rfl⟩) bc_pre rfl rfl hl.1 rfl (lv_room (Nat.le_of_ble_eq_true rfl)) dX2_calculateBCHCode_26 ⟨Nat.le_of_ble_eq_true rfl, Nat.le_of_ble_eq_true rfl⟩) (fun r er => ?_)
    obtain rfl : r = nI (bc_len w) := er
    refine lv_iload_n hx hb dX2_calculateBCHCode_29 rfl (lv_at hl 2 rfl) ?_
    refine lv_icmp_lt (tgt := 47) hx hb dX2_calculateBCHCode_30 (by decide) (fun h => ?_) (fun h => ?_)
    · have h := (nI_ltI (by omega) (by omega)).mp h
      have hlow : w < 2 ^ (g + 0) := bc_len_le.mp (by omega)
      have e1 : w = X := by rw [← eX, bc_red_low q g j 0 w hlow (Nat.zero_le j), bc_red_0]
      refine lv_iload_n hx hb dX2_calculateBCHCode_47 rfl (lv_at hl 0 rfl) ?_
      exact W.iret hx hb hr (fun t ht hW => ⟨_, rfl, show nI w = nI X by rw [e1], ht⟩) (fun q hq => by cases hq) dX2_calculateBCHCode_48
    · have h : ¬ bc_len w < g + 1 := fun z => h ((nI_ltI (by omega) (by omega)).mpr z)
      obtain ⟨k, hk⟩ : ∃ k, bc_len w = g + k + 1 := ⟨bc_len w - g - 1, by omega⟩
      have hkj : k < j := by omega
      have w1 : 2 ^ (g + k) ≤ w := bc_lt_len.mp (by omega)
      have w2 : w < 2 ^ (g + k + 1) := bc_len_le.mp (by omega)
      have s1 : 2 ^ (g + k) ≤ q <<< k := bc_shl_ge hq1
      have s2 : q <<< k < 2 ^ (g + k + 1) := by
        have := bc_shl_lt (k := k) hq2
        rwa [show g + 1 + k = g + k + 1 by omega] at this
      refine lv_iload_n hx hb dX2_calculateBCHCode_33 rfl (lv_at hl 0 rfl) ?_
      refine lv_iload_n hx hb dX2_calculateBCHCode_34 rfl (lv_at hl 1 rfl) ?_
      refine lv_iload_n hx hb dX2_calculateBCHCode_35 rfl (lv_at hl 0 rfl) ?_
      refine vp_callSi (W.runS (As := [.int (nI w)]) (rest := [.int (nI q), .int (nI w)]) ⟨hx, hb, hml, hown, hts⟩ (met_msb l w hw32) (va_cwS 1 hts (lw_S q105 q25 q5 q26) rfl rfl rfl (by decide +kernel) ⟨Nat.le_of_ble_eq_true rfl, Nat.le_of_ble_eq_true rfl⟩) bc_pre rfl rfl hl.1 rfl (lv_room (Nat.le_of_ble_eq_true rfl)) dX2_calculateBCHCode_36 ⟨Nat.le_of_ble_eq_true rfl, Nat.le_of_ble_eq_true rfl⟩) (fun r er => ?_)
      obtain rfl : r = nI (bc_len w) := er
      refine lv_iload_n hx hb dX2_calculateBCHCode_39 rfl (lv_at hl 2 rfl) ?_
      refine lv_isub hx hb dX2_calculateBCHCode_40 ?_
      rw [bc_sub (show g + 1 ≤ bc_len w by omega), show bc_len w - (g + 1) = k by omega]
      refine lv_ishl hx hb dX2_calculateBCHCode_41 ?_
      rw [bc_shl q (show k < 32 by omega)]
      refine lv_ixor hx hb dX2_calculateBCHCode_42 ?_
      rw [nx_xor]
      refine lv_istore_n (lv' := [(0, .int (nI (w ^^^ (q <<< k)))), (1, .int (nI q)), (2, .int (nI (g + 1)))]) hx hb dX2_calculateBCHCode_43 rfl hl (by decide) rfl (fun ls hl => ?_)
      refine lv_goto (tgt := 25) hx hb dX2_calculateBCHCode_44 (by decide) ?_
      refine ih k hkj (w ^^^ (q <<< k)) ls (by omega) (bc_xor_lt w1 w2 s1 s2) ?_ hl
      rw [← bc_red_top w1 w2, ← eX]
      exact (bc_red_low q g j (k + 1) w w2 hkj).symm
set_option maxHeartbeats 4000000 in
/-- MatrixUtil.calculateBCHCode(a, q), for a of 16 bits and q of degree 1 up to 13: the rest -/
theorem met_bch (l : Launch) (a q : Nat) (ha : a < 65536) (hq1 : 2 ≤ q) (hq2 : q < 16384) : Met l yX2_calculateBCHCode wsX2_bch ({ frames := 2, cells := 0, slots := 0, locals := 41 }) (bc_Pc [.int (nI a), .int (nI q)]) (vp_Si (fun r => r = nI (bc_rem a q))) 0 0 (fun _ => False) := by
  refine Met.ofW (cc := cX2_calculateBCHCode) (maxL := 3) (ret := (some .int)) (by decide) rfl ?_
  intro p e s m args below meth c s₁ B hml hv
  obtain rfl : args = ([.int (nI a), .int (nI q)] : List Value).toArray := hv
  have hx := B.exec
  have hb := B.bytes
  have hr := B.returns
  have hts := atoms_spec (ws := wsX2_bch) B.pre
  have hts : ∀ w ∈ lw_all, w.before _ s = true := fun w h => hts w (List.mem_cons_of_mem _ h)
  have hown : s.vm.findClass RX2 = some m.cls := findClass_of_methodNamed B.named
  have hlocks := B.notSynchronized
  have hl := lv_entry ([.int (nI a), .int (nI q)]) (n := 3) (Nat.le_of_ble_eq_true rfl)
  rw [lg_entry_eq]
  generalize (lg_sl ([.int (nI a), .int (nI q)]) ++ List.replicate (3 - (lg_sl ([.int (nI a), .int (nI q)])).length) Slot.unset).toArray = ls at hl ⊢
  have hl : lv_has ls 3 [(0, .int (nI a)), (1, .int (nI q))] := hl
  have hqq : q < 4294967296 := by omega
  have l1 : 1 < bc_len q := bc_lt_len.mpr hq1
  have l2 : bc_len q ≤ 14 := bc_len_le.mpr hq2
  obtain ⟨g, hg⟩ : ∃ g, bc_len q = g + 1 := ⟨bc_len q - 1, by omega⟩
  refine lv_iload_n hx hb dX2_calculateBCHCode_0 rfl (lv_at hl 1 rfl) ?_
  refine lv_if_ne (tgt := 14) hx hb dX2_calculateBCHCode_1 (by decide) (fun h => ?_) (fun h => ?_)
  · refine lv_iload_n hx hb dX2_calculateBCHCode_14 rfl (lv_at hl 1 rfl) ?_
    refine vp_callSi (W.runS (As := [.int (nI q)]) (rest := []) ⟨hx, hb, hml, hown, hts⟩ (met_msb l q hqq) (va_cwS 1 hts (lw_S q105 q25 q5 q26) rfl rfl rfl (by decide +kernel) ⟨Nat.le_of_ble_eq_true rfl, Nat.le_of_ble_eq_true rfl⟩) bc_pre rfl rfl hl.1 rfl (lv_room (Nat.le_of_ble_eq_true rfl)) dX2_calculateBCHCode_15 ⟨Nat.le_of_ble_eq_true rfl, Nat.le_of_ble_eq_true rfl⟩) (fun r er => ?_)
    obtain rfl : r = nI (bc_len q) := er
    rw [hg]
    refine lv_istore_n (lv' := [(2, .int (nI (g + 1))), (0, .int (nI a)), (1, .int (nI q))]) hx hb dX2_calculateBCHCode_18 rfl hl (by decide) rfl (fun ls hl => ?_)
    refine lv_iload_n hx hb dX2_calculateBCHCode_19 rfl (lv_at hl 1 rfl) ?_
    refine lv_iload_n hx hb dX2_calculateBCHCode_20 rfl (lv_at hl 0 rfl) ?_
    refine lv_iconst (v := nI 1) hx hb dX2_calculateBCHCode_21 (by decide +kernel) ?_
    refine lv_isub hx hb dX2_calculateBCHCode_22 ?_
    rw [bc_sub (show 1 ≤ g + 1 by omega), Nat.add_sub_cancel]
    refine lv_ishl hx hb dX2_calculateBCHCode_23 ?_
    rw [bc_shl a (show g < 32 by omega)]
    refine lv_istore_n (lv' := [(0, .int (nI (a <<< g))), (2, .int (nI (g + 1))), (1, .int (nI q))]) hx hb dX2_calculateBCHCode_24 rfl hl (by decide) rfl (fun ls hl => ?_)
    have w0 : a <<< g < 2 ^ (g + 16) := by
      have := bc_shl_lt (q := a) (j := 16) (k := g) ha
      rwa [Nat.add_comm] at this
    refine bch_loop (g := g) hx hb hr hlocks hml hown hts (bc_lt_len.mp (by omega)) (bc_len_le.mp (by omega)) 16 (a <<< g) ls (by omega) w0 ?_ (lv_sub hl [0, 2, 1] rfl)
    unfold bc_rem
    rw [hg, Nat.add_sub_cancel]
    exact (bc_red_low q g (33 - (g + 1)) 16 (a <<< g) w0 (by omega)).symm
  · exact absurd ((bc_zero hqq).mp h) (by omega)
end BCH
end
section
/-! BchDesk: contracts of its four methods over calculateBCHCode (by gen_desk.py) -/
set_option maxRecDepth 100000
set_option maxHeartbeats 4000000 in
/-- BchDesk.highest(x): the length of x -/
theorem met_d_highest (l : Launch) (h0 : Nat) (x : Nat) (hx32 : x < 4294967296) : Met l yX0_highest wsX0_highest ({ frames := 2, cells := 0, slots := 0, locals := 41 }) (bc_Pc [.ref h0, .int (nI x)]) (vp_Si (fun r => r = nI (bc_len x))) 0 0 (fun _ => False) := by
  refine Met.ofW (cc := cX0_highest) (maxL := 2) (ret := (some .int)) (by decide) rfl ?_
  intro p e s m args below meth c s₁ B hml hv
  obtain rfl : args = ([.ref h0, .int (nI x)] : List Value).toArray := hv
  have hx := B.exec
  have hb := B.bytes
  have hr := B.returns
  have hts := atoms_spec (ws := wsX0_highest) B.pre
  have hts : ∀ w ∈ lw_all, w.before _ s = true := fun w h => hts w (List.mem_cons_of_mem _ h)
  have hown : s.vm.findClass RX0 = some m.cls := findClass_of_methodNamed B.named
  have hlocks := B.notSynchronized
  have hl := lv_entry ([.ref h0, .int (nI x)]) (n := 2) (Nat.le_of_ble_eq_true rfl)
  rw [lg_entry_eq]
  generalize (lg_sl ([.ref h0, .int (nI x)]) ++ List.replicate (2 - (lg_sl ([.ref h0, .int (nI x)])).length) Slot.unset).toArray = ls at hl ⊢
  have hl : lv_has ls 2 [(0, .ref h0), (1, .int (nI x))] := hl
  refine lv_iload_n hx hb dX0_highest_0 rfl (lv_at hl 1 rfl) ?_
  refine vp_callSi (W.runS (As := [.int (nI x)]) (rest := []) ⟨hx, hb, hml, hown, hts⟩ (met_msb l x hx32) (va_cwS 1 hts (lw_S q24 q25 q5 q26) rfl rfl rfl (by decide +kernel) ⟨Nat.le_of_ble_eq_true rfl, Nat.le_of_ble_eq_true rfl⟩) bc_pre rfl rfl hl.1 rfl (lv_room (Nat.le_of_ble_eq_true rfl)) dX0_highest_1 ⟨Nat.le_of_ble_eq_true rfl, Nat.le_of_ble_eq_true rfl⟩) (fun r er => ?_)
  obtain rfl : r = nI (bc_len x) := er
  exact W.iret hx hb hr (fun t ht hW => ⟨_, rfl, show nI (bc_len x) = nI (bc_len x) from rfl, ht⟩) (fun q hq => by cases hq) dX0_highest_4
set_option maxHeartbeats 4000000 in
/-- BchDesk.rest(x, y) -/
theorem met_d_rest (l : Launch) (h0 : Nat) (x y : Nat) (hx32 : x < 4294967296) (hy32 : y < 4294967296) : Met l yX0_rest wsX0_rest ({ frames := 3, cells := 0, slots := 0, locals := 63 }) (bc_Pc [.ref h0, .int (nI x), .int (nI y)]) (vp_Si (fun r => r = nI (bc_rem (x % 65536) (2 + y % 8192)))) 0 0 (fun _ => False) := by
  refine Met.ofW (cc := cX0_rest) (maxL := 4) (ret := (some .int)) (by decide) rfl ?_
  intro p e s m args below meth c s₁ B hml hv
  obtain rfl : args = ([.ref h0, .int (nI x), .int (nI y)] : List Value).toArray := hv
  have hx := B.exec
  have hb := B.bytes
  have hr := B.returns
  have hts := atoms_spec (ws := wsX0_rest) B.pre
  have hts : ∀ w ∈ lw_all, w.before _ s = true := fun w h => hts w (List.mem_cons_of_mem _ h)
  have hown : s.vm.findClass RX0 = some m.cls := findClass_of_methodNamed B.named
  have hlocks := B.notSynchronized
  have hl := lv_entry ([.ref h0, .int (nI x), .int (nI y)]) (n := 4) (Nat.le_of_ble_eq_true rfl)
  rw [lg_entry_eq]
  generalize (lg_sl ([.ref h0, .int (nI x), .int (nI y)]) ++ List.replicate (4 - (lg_sl ([.ref h0, .int (nI x), .int (nI y)])).length) Slot.unset).toArray = ls at hl ⊢
  have hl : lv_has ls 4 [(0, .ref h0), (1, .int (nI x)), (2, .int (nI y))] := hl
  have hy := Nat.mod_lt y (show 0 < 8192 by decide)
  refine lv_iconst (v := nI 2) hx hb dX0_rest_0 (by decide +kernel) ?_
  refine lv_iload_n hx hb dX0_rest_1 rfl (lv_at hl 2 rfl) ?_
  refine lv_sipush (v := nI 8191) hx hb dX0_rest_2 (by decide +kernel) ?_
  refine lv_iand hx hb dX0_rest_5 ?_
  rw [show nI y &&& nI 8191 = nI (y % 8192) from bc_mask y 13]
  refine lv_iadd hx hb dX0_rest_6 ?_
  rw [nI_add]
  refine lv_istore_n (lv' := [(3, .int (nI (2 + y % 8192))), (0, .ref h0), (1, .int (nI x)), (2, .int (nI y))]) hx hb dX0_rest_7 rfl hl (by decide) rfl (fun ls hl => ?_)
  refine lv_iload_n hx hb dX0_rest_8 rfl (lv_at hl 2 rfl) ?_
  refine lv_ldc (v := nI 65535) hx hb hown (hts _ q35) dX0_rest_9 ?_
  refine lv_iand hx hb dX0_rest_11 ?_
  rw [show nI x &&& nI 65535 = nI (x % 65536) from bc_mask x 16]
  refine lv_iload_n hx hb dX0_rest_12 rfl (lv_at hl 0 rfl) ?_
  refine vp_callSi (W.runS (As := [.int (nI (x % 65536)), .int (nI (2 + y % 8192))]) (rest := []) ⟨hx, hb, hml, hown, hts⟩ (met_bch l (x % 65536) (2 + y % 8192) (Nat.mod_lt x (by decide)) (Nat.le_add_right 2 _) (by omega)) (va_cwS 2 hts (lw_S q36 q37 q5 q38) rfl rfl rfl (by decide +kernel) ⟨Nat.le_of_ble_eq_true rfl, Nat.le_of_ble_eq_true rfl⟩) bc_pre rfl rfl hl.1 rfl (lv_room (Nat.le_of_ble_eq_true rfl)) dX0_rest_13 ⟨Nat.le_of_ble_eq_true rfl, Nat.le_of_ble_eq_true rfl⟩) (fun r er => ?_)
  obtain rfl : r = nI (bc_rem (x % 65536) (2 + y % 8192)) := er
  exact W.iret hx hb hr (fun t ht hW => ⟨_, rfl, show nI (bc_rem (x % 65536) (2 + y % 8192)) = nI (bc_rem (x % 65536) (2 + y % 8192)) from rfl, ht⟩) (fun q hq => by cases hq) dX0_rest_16
set_option maxHeartbeats 4000000 in
/-- BchDesk.format(x) -/
theorem met_d_format (l : Launch) (h0 : Nat) (x : Nat) (hx32 : x < 4294967296) : Met l yX0_format wsX0_format ({ frames := 3, cells := 0, slots := 0, locals := 63 }) (bc_Pc [.ref h0, .int (nI x)]) (vp_Si (fun r => r = bc_fmt x)) 0 0 (fun _ => False) := by
  refine Met.ofW (cc := cX0_format) (maxL := 3) (ret := (some .int)) (by decide) rfl ?_
  intro p e s m args below meth c s₁ B hml hv
  obtain rfl : args = ([.ref h0, .int (nI x)] : List Value).toArray := hv
  have hx := B.exec
  have hb := B.bytes
  have hr := B.returns
  have hts := atoms_spec (ws := wsX0_format) B.pre
  have hts : ∀ w ∈ lw_all, w.before _ s = true := fun w h => hts w (List.mem_cons_of_mem _ h)
  have hown : s.vm.findClass RX0 = some m.cls := findClass_of_methodNamed B.named
  have hlocks := B.notSynchronized
  have hl := lv_entry ([.ref h0, .int (nI x)]) (n := 3) (Nat.le_of_ble_eq_true rfl)
  rw [lg_entry_eq]
  generalize (lg_sl ([.ref h0, .int (nI x)]) ++ List.replicate (3 - (lg_sl ([.ref h0, .int (nI x)])).length) Slot.unset).toArray = ls at hl ⊢
  have hl : lv_has ls 3 [(0, .ref h0), (1, .int (nI x))] := hl
  have hm := Nat.mod_lt x (show 0 < 32 by decide)
  refine lv_iload_n hx hb dX0_format_0 rfl (lv_at hl 1 rfl) ?_
  refine lv_bipush (v := nI 31) hx hb dX0_format_1 (by decide +kernel) ?_
  refine lv_iand hx hb dX0_format_3 ?_
  rw [show nI x &&& nI 31 = nI (x % 32) from bc_mask x 5]
  refine lv_istore_n (lv' := [(2, .int (nI (x % 32))), (0, .ref h0), (1, .int (nI x))]) hx hb dX0_format_4 rfl hl (by decide) rfl (fun ls hl => ?_)
  refine lv_iload_n hx hb dX0_format_5 rfl (lv_at hl 0 rfl) ?_
  refine lv_bipush (v := nI 10) hx hb dX0_format_6 (by decide +kernel) ?_
  refine lv_ishl hx hb dX0_format_8 ?_
  refine lv_iload_n hx hb dX0_format_9 rfl (lv_at hl 0 rfl) ?_
  refine lv_sipush (v := nI 1335) hx hb dX0_format_10 (by decide +kernel) ?_
  refine vp_callSi (W.runS (As := [.int (nI (x % 32)), .int (nI 1335)]) (rest := [.int (nI (x % 32) <<< (nI 10 &&& 31))]) ⟨hx, hb, hml, hown, hts⟩ (met_bch l (x % 32) 1335 (by omega) (by decide) (by decide)) (va_cwS 2 hts (lw_S q36 q37 q5 q38) rfl rfl rfl (by decide +kernel) ⟨Nat.le_of_ble_eq_true rfl, Nat.le_of_ble_eq_true rfl⟩) bc_pre rfl rfl hl.1 rfl (lv_room (Nat.le_of_ble_eq_true rfl)) dX0_format_13 ⟨Nat.le_of_ble_eq_true rfl, Nat.le_of_ble_eq_true rfl⟩) (fun r er => ?_)
  obtain rfl : r = nI (bc_rem (x % 32) 1335) := er
  refine lv_ior hx hb dX0_format_16 ?_
  refine lv_sipush (v := nI 21522) hx hb dX0_format_17 (by decide +kernel) ?_
  refine lv_ixor hx hb dX0_format_20 ?_
  exact W.iret hx hb hr (fun t ht hW => ⟨_, rfl, show ((nI (x % 32) <<< (nI 10 &&& 31)) ||| nI (bc_rem (x % 32) 1335)) ^^^ nI 21522 = bc_fmt x from rfl, ht⟩) (fun q hq => by cases hq) dX0_format_21
set_option maxHeartbeats 4000000 in
/-- BchDesk.version(x) -/
theorem met_d_version (l : Launch) (h0 : Nat) (x : Nat) (hx32 : x < 4294967296) : Met l yX0_version wsX0_version ({ frames := 3, cells := 0, slots := 0, locals := 63 }) (bc_Pc [.ref h0, .int (nI x)]) (vp_Si (fun r => r = bc_ver x)) 0 0 (fun _ => False) := by
  refine Met.ofW (cc := cX0_version) (maxL := 3) (ret := (some .int)) (by decide) rfl ?_
  intro p e s m args below meth c s₁ B hml hv
  obtain rfl : args = ([.ref h0, .int (nI x)] : List Value).toArray := hv
  have hx := B.exec
  have hb := B.bytes
  have hr := B.returns
  have hts := atoms_spec (ws := wsX0_version) B.pre
  have hts : ∀ w ∈ lw_all, w.before _ s = true := fun w h => hts w (List.mem_cons_of_mem _ h)
  have hown : s.vm.findClass RX0 = some m.cls := findClass_of_methodNamed B.named
  have hlocks := B.notSynchronized
  have hl := lv_entry ([.ref h0, .int (nI x)]) (n := 3) (Nat.le_of_ble_eq_true rfl)
  rw [lg_entry_eq]
  generalize (lg_sl ([.ref h0, .int (nI x)]) ++ List.replicate (3 - (lg_sl ([.ref h0, .int (nI x)])).length) Slot.unset).toArray = ls at hl ⊢
  have hl : lv_has ls 3 [(0, .ref h0), (1, .int (nI x))] := hl
  have hm := Nat.mod_lt x (show 0 < 2147483648 by decide)
  have hm2 := Nat.mod_lt (x % 2147483648) (show 0 < 34 by decide)
  refine lv_bipush (v := nI 7) hx hb dX0_version_0 (by decide +kernel) ?_
  refine lv_iload_n hx hb dX0_version_2 rfl (lv_at hl 1 rfl) ?_
  refine lv_ldc (v := nI 2147483647) hx hb hown (hts _ q114) dX0_version_3 ?_
  refine lv_iand hx hb dX0_version_5 ?_
  rw [show nI x &&& nI 2147483647 = nI (x % 2147483648) from bc_mask x 31]
  refine lv_bipush (v := nI 34) hx hb dX0_version_6 (by decide +kernel) ?_
  refine lv_irem hx hb dX0_version_8 (by decide +kernel) ?_
  rw [bc_mod (k := 34) hm (by decide) (by decide)]
  refine lv_iadd hx hb dX0_version_9 ?_
  rw [nI_add]
  refine lv_istore_n (lv' := [(2, .int (nI (7 + x % 2147483648 % 34))), (0, .ref h0), (1, .int (nI x))]) hx hb dX0_version_10 rfl hl (by decide) rfl (fun ls hl => ?_)
  refine lv_iload_n hx hb dX0_version_11 rfl (lv_at hl 0 rfl) ?_
  refine lv_bipush (v := nI 12) hx hb dX0_version_12 (by decide +kernel) ?_
  refine lv_ishl hx hb dX0_version_14 ?_
  refine lv_iload_n hx hb dX0_version_15 rfl (lv_at hl 0 rfl) ?_
  refine lv_sipush (v := nI 7973) hx hb dX0_version_16 (by decide +kernel) ?_
  refine vp_callSi (W.runS (As := [.int (nI (7 + x % 2147483648 % 34)), .int (nI 7973)]) (rest := [.int (nI (7 + x % 2147483648 % 34) <<< (nI 12 &&& 31))]) ⟨hx, hb, hml, hown, hts⟩ (met_bch l (7 + x % 2147483648 % 34) 7973 (by omega) (by decide) (by decide)) (va_cwS 2 hts (lw_S q36 q37 q5 q38) rfl rfl rfl (by decide +kernel) ⟨Nat.le_of_ble_eq_true rfl, Nat.le_of_ble_eq_true rfl⟩) bc_pre rfl rfl hl.1 rfl (lv_room (Nat.le_of_ble_eq_true rfl)) dX0_version_19 ⟨Nat.le_of_ble_eq_true rfl, Nat.le_of_ble_eq_true rfl⟩) (fun r er => ?_)
  obtain rfl : r = nI (bc_rem (7 + x % 2147483648 % 34) 7973) := er
  refine lv_ior hx hb dX0_version_22 ?_
  exact W.iret hx hb hr (fun t ht hW => ⟨_, rfl, show (nI (7 + x % 2147483648 % 34) <<< (nI 12 &&& 31)) ||| nI (bc_rem (7 + x % 2147483648 % 34) 7973) = bc_ver x from rfl, ht⟩) (fun q hq => by cases hq) dX0_version_23
end
section
/-! THE REFERENCE: BchDeskModel.highest and divided. Their object is asked for its kind alone -/
set_option maxRecDepth 100000
abbrev wsX1_init : List Cond := ws_ yX1_init cX1_init 1 none
abbrev wsX1_highest : List Cond := ws_ yX1_highest cX1_highest 4 (some .int)
abbrev wsX1_divided : List Cond := ws_ yX1_divided cX1_divided 6 (some .int)
abbrev wsX1_rest : List Cond := ws_ yX1_rest cX1_rest 3 (some .int)
abbrev wsX1_format : List Cond := ws_ yX1_format cX1_format 3 (some .int)
abbrev wsX1_version : List Cond := ws_ yX1_version cX1_version 3 (some .int)
/-- an object of the reference stands at h0 -/
def bm_R (h0 : Nat) (U : State) : Prop := ∃ cell : Cell, U.heap[h0]? = some cell ∧ cell.vm.isStatics = false ∧ U.vm.findClass RX1 = some cell.cls
def bm_Pc (h0 : Nat) (As : List Value) : Array Value → State → Prop := fun v U => v = (Value.ref h0 :: As).toArray ∧ bm_R h0 U
theorem bm_pre {s : State} {H : Heap} {h0 : Nat} {As : List Value} (h : ∃ cell : Cell, H[h0]? = some cell ∧ cell.vm.isStatics = false ∧ s.vm.findClass RX1 = some cell.cls) : PreV s H RX1 h0 (bm_Pc h0 As) As := by
  obtain ⟨cell, h1, h2, h3⟩ := h
  refine ⟨fun a U g mk q => q, ⟨cell, h1, h2, h3⟩, fun U hU hW => ⟨rfl, cell, ?_, h2, ?_⟩⟩
  · rw [hU]
    exact h1
  · rw [hW.alike.findClass]
    exact h3
section MODEL
variable {p : Program} {l : Launch} {e : Env} {R : Room} {s : State} {m : MethodId} {args : Array Value} {below : List Frame} {meth : Method} {c : Code} {ar : Array Value} {h0 : Nat}
set_option maxHeartbeats 4000000 in
/-- highest's loop: k bits are read -/
theorem mh_loop {x : Nat} (hx32 : x < 4294967296) (hx : p.tables.exec = Jvm.exec) (hb : c.code = cX1_highest) (hr : meth.sig.returnType = some .int) (hlocks : meth.locks = false) :
    ∀ (n k : Nat) (ls : Array Slot), k + n = 32 → lv_has ls 4 [(0, .ref h0), (1, .int (nI x)), (2, .int (nI (bc_len (x % 2 ^ k)))), (3, .int (nI k))] → W p l e R s m ar below meth c s.heap [] 0 0 (MQ below (vp_Si (fun r => r = nI (bc_len x))) ar s 0 0 (fun _ => False)) (F0 m 4 ls []) := by
  intro n
  induction n with
  | zero =>
    intro k ls hk hl
    obtain rfl : k = 32 := hk
    have e1 : bc_len (x % 2 ^ 32) = bc_len x := by rw [Nat.mod_eq_of_lt (show x < 2 ^ 32 from hx32)]
    refine lv_iload_n hx hb dX1_highest_4 rfl (lv_at hl 3 rfl) ?_
    refine lv_bipush (v := nI 32) hx hb dX1_highest_5 (by decide +kernel) ?_
    refine lv_icmp_ge (tgt := 33) hx hb dX1_highest_7 (by decide) (fun h => ?_) (fun h => ?_)
    · refine lv_iload_n hx hb dX1_highest_33 rfl (lv_at hl 2 rfl) ?_
      exact W.iret hx hb hr (fun t ht hW => ⟨_, rfl, show nI (bc_len (x % 2 ^ 32)) = nI (bc_len x) by rw [e1], ht⟩) (fun q hq => by cases hq) dX1_highest_34
    · exact absurd (nI_le (Nat.le_refl 32) (by decide)) h
  | succ n ih =>
    intro k ls hk hl
    have K : ∀ ls : Array Slot, lv_has ls 4 [(0, .ref h0), (1, .int (nI x)), (2, .int (nI (bc_len (x % 2 ^ k)))), (3, .int (nI k))] → W p l e R s m ar below meth c s.heap [] 0 0 (MQ below (vp_Si (fun r => r = nI (bc_len x))) ar s 0 0 (fun _ => False)) (F0 m 26 ls [.int (nI (bc_len (x % 2 ^ (k + 1))))]) := by
      intro ls hl
      refine lv_istore_n (lv' := [(2, .int (nI (bc_len (x % 2 ^ (k + 1))))), (0, .ref h0), (1, .int (nI x)), (3, .int (nI k))]) hx hb dX1_highest_26 rfl hl (by decide) rfl (fun ls hl => ?_)
      refine lv_iinc (v := nI (k + 1)) (lv' := [(3, .int (nI (k + 1))), (2, .int (nI (bc_len (x % 2 ^ (k + 1))))), (0, .ref h0), (1, .int (nI x))]) hx hb dX1_highest_27 hl (k := 3) rfl (bc_inc (c := 1) (by decide +kernel)) (by decide) rfl (fun ls hl => ?_)
      refine lv_goto (tgt := 4) hx hb dX1_highest_30 (by decide) ?_
      exact ih (k + 1) ls (by omega) (lv_sub hl [2, 3, 1, 0] rfl)
    refine lv_iload_n hx hb dX1_highest_4 rfl (lv_at hl 3 rfl) ?_
    refine lv_bipush (v := nI 32) hx hb dX1_highest_5 (by decide +kernel) ?_
    refine lv_icmp_ge (tgt := 33) hx hb dX1_highest_7 (by decide) (fun h => ?_) (fun h => ?_)
    · exact absurd h (nI_ge (show k < 32 by omega) (by decide))
    · refine lv_iload_n hx hb dX1_highest_10 rfl (lv_at hl 1 rfl) ?_
      refine lv_iload_n hx hb dX1_highest_11 rfl (lv_at hl 3 rfl) ?_
      refine lv_iushr (v := nI (x >>> k)) hx hb dX1_highest_12 (bc_ush hx32 (by omega)) ?_
      refine lv_iconst (v := nI 1) hx hb dX1_highest_13 (by decide +kernel) ?_
      refine lv_iand hx hb dX1_highest_14 ?_
      rw [nx_and]
      refine lv_iconst (v := nI 1) hx hb dX1_highest_15 (by decide +kernel) ?_
      refine lv_icmp_ne (tgt := 25) hx hb dX1_highest_16 (by decide) (fun h => ?_) (fun h => ?_)
      · refine lv_iload_n hx hb dX1_highest_25 rfl (lv_at hl 2 rfl) ?_
        have hk2 := K ls hl
        rw [bc_len_step, if_neg (fun z => h ((bc_bit x k).mpr z))] at hk2
        exact hk2
      · refine lv_iload_n hx hb dX1_highest_19 rfl (lv_at hl 3 rfl) ?_
        refine lv_iconst (v := nI 1) hx hb dX1_highest_20 (by decide +kernel) ?_
        refine lv_iadd hx hb dX1_highest_21 ?_
        rw [nI_add]
        refine lv_goto (tgt := 26) hx hb dX1_highest_22 (by decide) ?_
        have hk2 := K ls hl
        rw [bc_len_step, if_pos ((bc_bit x k).mp h)] at hk2
        exact hk2
set_option maxHeartbeats 4000000 in
/-- divided's loop: k places are left -/
theorem md_loop {a q g X : Nat} (hg1 : 1 ≤ g) (hq2 : q < 2 ^ (g + 1)) (hx : p.tables.exec = Jvm.exec) (hb : c.code = cX1_divided) (hr : meth.sig.returnType = some .int) (hlocks : meth.locks = false) :
    ∀ (k w : Nat) (ls : Array Slot), g + k ≤ 32 → w < 4294967296 → bc_red q g k w = X → lv_has ls 6 [(0, .ref h0), (1, .int (nI a)), (2, .int (nI q)), (3, .int (nI g)), (4, .int (nI w)), (5, .int (nI (g + k - 1)))] → W p l e R s m ar below meth c s.heap [] 0 0 (MQ below (vp_Si (fun r => r = nI X)) ar s 0 0 (fun _ => False)) (F0 m 17 ls []) := by
  intro k
  induction k with
  | zero =>
    intro w ls hk hw eX hl
    have e1 : w = X := eX
    refine lv_iload hx hb dX1_divided_17 (lv_at hl 5 rfl) ?_
    refine lv_iload_n hx hb dX1_divided_19 rfl (lv_at hl 3 rfl) ?_
    refine lv_icmp_lt (tgt := 55) hx hb dX1_divided_20 (by decide) (fun h => ?_) (fun h => ?_)
    · refine lv_iload hx hb dX1_divided_55 (lv_at hl 4 rfl) ?_
      exact W.iret hx hb hr (fun t ht hW => ⟨_, rfl, show nI w = nI X by rw [e1], ht⟩) (fun q hq => by cases hq) dX1_divided_57
    · exact absurd (nI_lt (show g + 0 - 1 < g by omega) (by omega)) h
  | succ k ih =>
    intro w ls hk hw eX hl
    have hl : lv_has ls 6 [(0, .ref h0), (1, .int (nI a)), (2, .int (nI q)), (3, .int (nI g)), (4, .int (nI w)), (5, .int (nI (g + k)))] := hl
    have hq3 : q <<< k < 2 ^ 32 := Nat.lt_of_lt_of_le (bc_shl_lt hq2) (Nat.pow_le_pow_right (by decide) (by omega))
    have K : ∀ (t : Nat) (ls : Array Slot), t < 2 ^ 32 → bc_red q g k (w ^^^ t) = X → lv_has ls 6 [(0, .ref h0), (1, .int (nI a)), (2, .int (nI q)), (3, .int (nI g)), (4, .int (nI w)), (5, .int (nI (g + k)))] → W p l e R s m ar below meth c s.heap [] 0 0 (MQ below (vp_Si (fun r => r = nI X)) ar s 0 0 (fun _ => False)) (F0 m 46 ls [.int (nI t), .int (nI w)]) := by
      intro t ls ht e2 hl
      refine lv_ixor hx hb dX1_divided_46 ?_
      rw [nx_xor]
      refine lv_istore (lv' := [(4, .int (nI (w ^^^ t))), (0, .ref h0), (1, .int (nI a)), (2, .int (nI q)), (3, .int (nI g)), (5, .int (nI (g + k)))]) hx hb dX1_divided_47 hl (by decide) rfl (fun ls hl => ?_)
      refine lv_iinc (v := nI (g + k - 1)) (lv' := [(5, .int (nI (g + k - 1))), (4, .int (nI (w ^^^ t))), (0, .ref h0), (1, .int (nI a)), (2, .int (nI q)), (3, .int (nI g))]) hx hb dX1_divided_49 hl (k := 5) rfl (bc_dec (show 1 ≤ g + k by omega) (by decide +kernel)) (by decide) rfl (fun ls hl => ?_)
      refine lv_goto (tgt := 17) hx hb dX1_divided_52 (by decide) ?_
      exact ih (w ^^^ t) ls (by omega) (Nat.xor_lt_two_pow (n := 32) hw ht) e2 (lv_sub hl [2, 3, 4, 5, 1, 0] rfl)
    rw [bc_red_s] at eX
    refine lv_iload hx hb dX1_divided_17 (lv_at hl 5 rfl) ?_
    refine lv_iload_n hx hb dX1_divided_19 rfl (lv_at hl 3 rfl) ?_
    refine lv_icmp_lt (tgt := 55) hx hb dX1_divided_20 (by decide) (fun h => ?_) (fun h => ?_)
    · exact absurd h (nI_nlt (Nat.le_add_right g k) (by omega))
    · refine lv_iload hx hb dX1_divided_23 (lv_at hl 4 rfl) ?_
      refine lv_iload hx hb dX1_divided_25 (lv_at hl 4 rfl) ?_
      refine lv_iload hx hb dX1_divided_27 (lv_at hl 5 rfl) ?_
      refine lv_iushr (v := nI (w >>> (g + k))) hx hb dX1_divided_29 (bc_ush hw (by omega)) ?_
      refine lv_iconst (v := nI 1) hx hb dX1_divided_30 (by decide +kernel) ?_
      refine lv_iand hx hb dX1_divided_31 ?_
      rw [nx_and]
      refine lv_iconst (v := nI 1) hx hb dX1_divided_32 (by decide +kernel) ?_
      refine lv_icmp_ne (tgt := 45) hx hb dX1_divided_33 (by decide) (fun h => ?_) (fun h => ?_)
      · refine lv_iconst (v := nI 0) hx hb dX1_divided_45 (by decide +kernel) ?_
        rw [if_neg (fun z => h ((bc_bit w (g + k)).mpr z))] at eX
        exact K 0 ls (by decide) (by rw [Nat.xor_zero]; exact eX) hl
      · refine lv_iload_n hx hb dX1_divided_36 rfl (lv_at hl 2 rfl) ?_
        refine lv_iload hx hb dX1_divided_37 (lv_at hl 5 rfl) ?_
        refine lv_iload_n hx hb dX1_divided_39 rfl (lv_at hl 3 rfl) ?_
        refine lv_isub hx hb dX1_divided_40 ?_
        rw [bc_sub (Nat.le_add_right g k), Nat.add_sub_cancel_left]
        refine lv_ishl hx hb dX1_divided_41 ?_
        rw [bc_shl q (show k < 32 by omega)]
        refine lv_goto (tgt := 46) hx hb dX1_divided_42 (by decide) ?_
        rw [if_pos ((bc_bit w (g + k)).mp h)] at eX
        exact K (q <<< k) ls hq3 eX hl
end MODEL
end
section
/-! BchDeskModel: contracts of highest, divided, rest, format, version (by gen_desk.py) -/
set_option maxRecDepth 100000
set_option maxHeartbeats 4000000 in
/-- BchDeskModel.highest(x): the length of x -/
theorem met_m_highest (l : Launch) (h0 : Nat) (x : Nat) (hx32 : x < 4294967296) : Met l yX1_highest wsX1_highest ({ frames := 0, cells := 0, slots := 0, locals := 0 }) (bc_Pc [.ref h0, .int (nI x)]) (vp_Si (fun r => r = nI (bc_len x))) 0 0 (fun _ => False) := by
  refine Met.ofW (cc := cX1_highest) (maxL := 4) (ret := (some .int)) (by decide) rfl ?_
  intro p e s m args below meth c s₁ B hml hv
  obtain rfl : args = ([.ref h0, .int (nI x)] : List Value).toArray := hv
  have hx := B.exec
  have hb := B.bytes
  have hr := B.returns
  have hts := atoms_spec (ws := wsX1_highest) B.pre
  have hts : ∀ w ∈ lw_all, w.before _ s = true := fun w h => hts w (List.mem_cons_of_mem _ h)
  have hown : s.vm.findClass RX1 = some m.cls := findClass_of_methodNamed B.named
  have hlocks := B.notSynchronized
  have hl := lv_entry ([.ref h0, .int (nI x)]) (n := 4) (Nat.le_of_ble_eq_true rfl)
  rw [lg_entry_eq]
  generalize (lg_sl ([.ref h0, .int (nI x)]) ++ List.replicate (4 - (lg_sl ([.ref h0, .int (nI x)])).length) Slot.unset).toArray = ls at hl ⊢
  have hl : lv_has ls 4 [(0, .ref h0), (1, .int (nI x))] := hl
  refine lv_iconst (v := nI (bc_len (x % 2 ^ 0))) hx hb dX1_highest_0 (by rw [Nat.pow_zero, Nat.mod_one, bc_len_0]; decide +kernel) ?_
  refine lv_istore_n (lv' := [(2, .int (nI (bc_len (x % 2 ^ 0)))), (0, .ref h0), (1, .int (nI x))]) hx hb dX1_highest_1 rfl hl (by decide) rfl (fun ls hl => ?_)
  refine lv_iconst (v := nI 0) hx hb dX1_highest_2 (by decide +kernel) ?_
  refine lv_istore_n (lv' := [(3, .int (nI 0)), (2, .int (nI (bc_len (x % 2 ^ 0)))), (0, .ref h0), (1, .int (nI x))]) hx hb dX1_highest_3 rfl hl (by decide) rfl (fun ls hl => ?_)
  exact mh_loop hx32 hx hb hr hlocks 32 0 ls rfl (lv_sub hl [2, 3, 1, 0] rfl)
set_option maxHeartbeats 4000000 in
/-- BchDeskModel.divided(a, q), for a of 16 bits and q of degree 1 up to 13: the rest -/
theorem met_m_divided (l : Launch) (h0 : Nat) (a q : Nat) (ha : a < 65536) (hq1 : 2 ≤ q) (hq2 : q < 16384) : Met l yX1_divided wsX1_divided ({ frames := 1, cells := 0, slots := 0, locals := 23 }) (bm_Pc h0 [.int (nI a), .int (nI q)]) (vp_Si (fun r => r = nI (bc_rem a q))) 0 0 (fun _ => False) := by
  refine Met.ofW (cc := cX1_divided) (maxL := 6) (ret := (some .int)) (by decide) rfl ?_
  intro p e s m args below meth c s₁ B hml hv
  obtain ⟨rfl, hrv⟩ := hv
  have hx := B.exec
  have hb := B.bytes
  have hr := B.returns
  have hts := atoms_spec (ws := wsX1_divided) B.pre
  have hts : ∀ w ∈ lw_all, w.before _ s = true := fun w h => hts w (List.mem_cons_of_mem _ h)
  have hown : s.vm.findClass RX1 = some m.cls := findClass_of_methodNamed B.named
  have hlocks := B.notSynchronized
  have hl := lv_entry ([.ref h0, .int (nI a), .int (nI q)]) (n := 6) (Nat.le_of_ble_eq_true rfl)
  rw [lg_entry_eq]
  generalize (lg_sl ([.ref h0, .int (nI a), .int (nI q)]) ++ List.replicate (6 - (lg_sl ([.ref h0, .int (nI a), .int (nI q)])).length) Slot.unset).toArray = ls at hl ⊢
  have hl : lv_has ls 6 [(0, .ref h0), (1, .int (nI a)), (2, .int (nI q))] := hl
  have l1 : 1 < bc_len q := bc_lt_len.mpr hq1
  have l2 : bc_len q ≤ 14 := bc_len_le.mpr hq2
  obtain ⟨g, hg⟩ : ∃ g, bc_len q = g + 1 := ⟨bc_len q - 1, by omega⟩
  refine lv_aload_n hx hb dX1_divided_0 rfl (lv_at hl 0 rfl) ?_
  refine lv_iload_n hx hb dX1_divided_1 rfl (lv_at hl 2 rfl) ?_
  refine vp_callSi (W.runV (As := [.int (nI q)]) (rest := []) ⟨hx, hb, hml, hown, hts⟩ (met_m_highest l h0 q (by omega)) (cwV 1 hts (lw_V q135 q123 q124 q4 q125) rfl rfl rfl (by decide +kernel) ⟨Nat.le_of_ble_eq_true rfl, Nat.le_of_ble_eq_true rfl⟩) (bc_preV hrv) rfl rfl hl.1 rfl (lv_room (Nat.le_of_ble_eq_true rfl)) dX1_divided_2 ⟨Nat.le_of_ble_eq_true rfl, Nat.le_of_ble_eq_true rfl⟩) (fun r er => ?_)
  obtain rfl : r = nI (bc_len q) := er
  rw [hg]
  refine lv_iconst (v := nI 1) hx hb dX1_divided_5 (by decide +kernel) ?_
  refine lv_isub hx hb dX1_divided_6 ?_
  rw [bc_sub (show 1 ≤ g + 1 by omega), Nat.add_sub_cancel]
  refine lv_istore_n (lv' := [(3, .int (nI g)), (0, .ref h0), (1, .int (nI a)), (2, .int (nI q))]) hx hb dX1_divided_7 rfl hl (by decide) rfl (fun ls hl => ?_)
  refine lv_iload_n hx hb dX1_divided_8 rfl (lv_at hl 2 rfl) ?_
  refine lv_iload_n hx hb dX1_divided_9 rfl (lv_at hl 0 rfl) ?_
  refine lv_ishl hx hb dX1_divided_10 ?_
  rw [bc_shl a (show g < 32 by omega)]
  refine lv_istore (lv' := [(4, .int (nI (a <<< g))), (3, .int (nI g)), (0, .ref h0), (1, .int (nI a)), (2, .int (nI q))]) hx hb dX1_divided_11 hl (by decide) rfl (fun ls hl => ?_)
  refine lv_bipush (v := nI (g + (33 - (g + 1)) - 1)) hx hb dX1_divided_13 (by rw [show g + (33 - (g + 1)) - 1 = 31 by omega]; decide +kernel) ?_
  refine lv_istore (lv' := [(5, .int (nI (g + (33 - (g + 1)) - 1))), (4, .int (nI (a <<< g))), (3, .int (nI g)), (0, .ref h0), (1, .int (nI a)), (2, .int (nI q))]) hx hb dX1_divided_15 hl (by decide) rfl (fun ls hl => ?_)
  have w0 : a <<< g < 2 ^ (16 + g) := bc_shl_lt (q := a) (j := 16) (k := g) ha
  have w1 : a <<< g < 2 ^ 32 := Nat.lt_of_lt_of_le w0 (Nat.pow_le_pow_right (by decide) (by omega))
  refine md_loop (g := g) (by omega) (bc_len_le.mp (by omega)) hx hb hr hlocks (33 - (g + 1)) (a <<< g) ls (by omega) w1 ?_ (lv_sub hl [3, 4, 5, 2, 1, 0] rfl)
  unfold bc_rem
  rw [hg, Nat.add_sub_cancel]
set_option maxHeartbeats 4000000 in
/-- BchDeskModel.rest(x, y) -/
theorem met_m_rest (l : Launch) (h0 : Nat) (x y : Nat) (hx32 : x < 4294967296) (hy32 : y < 4294967296) : Met l yX1_rest wsX1_rest ({ frames := 2, cells := 0, slots := 0, locals := 48 }) (bm_Pc h0 [.int (nI x), .int (nI y)]) (vp_Si (fun r => r = nI (bc_rem (x % 65536) (2 + y % 8192)))) 0 0 (fun _ => False) := by
  refine Met.ofW (cc := cX1_rest) (maxL := 3) (ret := (some .int)) (by decide) rfl ?_
  intro p e s m args below meth c s₁ B hml hv
  obtain ⟨rfl, hrv⟩ := hv
  have hx := B.exec
  have hb := B.bytes
  have hr := B.returns
  have hts := atoms_spec (ws := wsX1_rest) B.pre
  have hts : ∀ w ∈ lw_all, w.before _ s = true := fun w h => hts w (List.mem_cons_of_mem _ h)
  have hown : s.vm.findClass RX1 = some m.cls := findClass_of_methodNamed B.named
  have hlocks := B.notSynchronized
  have hl := lv_entry ([.ref h0, .int (nI x), .int (nI y)]) (n := 3) (Nat.le_of_ble_eq_true rfl)
  rw [lg_entry_eq]
  generalize (lg_sl ([.ref h0, .int (nI x), .int (nI y)]) ++ List.replicate (3 - (lg_sl ([.ref h0, .int (nI x), .int (nI y)])).length) Slot.unset).toArray = ls at hl ⊢
  have hl : lv_has ls 3 [(0, .ref h0), (1, .int (nI x)), (2, .int (nI y))] := hl
  have hy := Nat.mod_lt y (show 0 < 8192 by decide)
  refine lv_aload_n hx hb dX1_rest_0 rfl (lv_at hl 0 rfl) ?_
  refine lv_iload_n hx hb dX1_rest_1 rfl (lv_at hl 1 rfl) ?_
  refine lv_ldc (v := nI 65535) hx hb hown (hts _ q130) dX1_rest_2 ?_
  refine lv_iand hx hb dX1_rest_4 ?_
  rw [show nI x &&& nI 65535 = nI (x % 65536) from bc_mask x 16]
  refine lv_iconst (v := nI 2) hx hb dX1_rest_5 (by decide +kernel) ?_
  refine lv_iload_n hx hb dX1_rest_6 rfl (lv_at hl 2 rfl) ?_
  refine lv_sipush (v := nI 8191) hx hb dX1_rest_7 (by decide +kernel) ?_
  refine lv_iand hx hb dX1_rest_10 ?_
  rw [show nI y &&& nI 8191 = nI (y % 8192) from bc_mask y 13]
  refine lv_iadd hx hb dX1_rest_11 ?_
  rw [nI_add]
  refine vp_callSi (W.runV (As := [.int (nI (x % 65536)), .int (nI (2 + y % 8192))]) (rest := []) ⟨hx, hb, hml, hown, hts⟩ (met_m_divided l h0 (x % 65536) (2 + y % 8192) (Nat.mod_lt x (by decide)) (Nat.le_add_right 2 _) (by omega)) (cwV 2 hts (lw_V q131 q133 qs1 q4 q134) rfl rfl rfl (by decide +kernel) ⟨Nat.le_of_ble_eq_true rfl, Nat.le_of_ble_eq_true rfl⟩) (bm_pre hrv) rfl rfl hl.1 rfl (lv_room (Nat.le_of_ble_eq_true rfl)) dX1_rest_12 ⟨Nat.le_of_ble_eq_true rfl, Nat.le_of_ble_eq_true rfl⟩) (fun r er => ?_)
  obtain rfl : r = nI (bc_rem (x % 65536) (2 + y % 8192)) := er
  exact W.iret hx hb hr (fun t ht hW => ⟨_, rfl, show nI (bc_rem (x % 65536) (2 + y % 8192)) = nI (bc_rem (x % 65536) (2 + y % 8192)) from rfl, ht⟩) (fun q hq => by cases hq) dX1_rest_15
set_option maxHeartbeats 4000000 in
/-- BchDeskModel.format(x) -/
theorem met_m_format (l : Launch) (h0 : Nat) (x : Nat) (hx32 : x < 4294967296) : Met l yX1_format wsX1_format ({ frames := 2, cells := 0, slots := 0, locals := 48 }) (bm_Pc h0 [.int (nI x)]) (vp_Si (fun r => r = bc_fmt x)) 0 0 (fun _ => False) := by
  refine Met.ofW (cc := cX1_format) (maxL := 3) (ret := (some .int)) (by decide) rfl ?_
  intro p e s m args below meth c s₁ B hml hv
  obtain ⟨rfl, hrv⟩ := hv
  have hx := B.exec
  have hb := B.bytes
  have hr := B.returns
  have hts := atoms_spec (ws := wsX1_format) B.pre
  have hts : ∀ w ∈ lw_all, w.before _ s = true := fun w h => hts w (List.mem_cons_of_mem _ h)
  have hown : s.vm.findClass RX1 = some m.cls := findClass_of_methodNamed B.named
  have hlocks := B.notSynchronized
  have hl := lv_entry ([.ref h0, .int (nI x)]) (n := 3) (Nat.le_of_ble_eq_true rfl)
  rw [lg_entry_eq]
  generalize (lg_sl ([.ref h0, .int (nI x)]) ++ List.replicate (3 - (lg_sl ([.ref h0, .int (nI x)])).length) Slot.unset).toArray = ls at hl ⊢
  have hl : lv_has ls 3 [(0, .ref h0), (1, .int (nI x))] := hl
  have hm := Nat.mod_lt x (show 0 < 32 by decide)
  refine lv_iload_n hx hb dX1_format_0 rfl (lv_at hl 1 rfl) ?_
  refine lv_bipush (v := nI 31) hx hb dX1_format_1 (by decide +kernel) ?_
  refine lv_iand hx hb dX1_format_3 ?_
  rw [show nI x &&& nI 31 = nI (x % 32) from bc_mask x 5]
  refine lv_istore_n (lv' := [(2, .int (nI (x % 32))), (0, .ref h0), (1, .int (nI x))]) hx hb dX1_format_4 rfl hl (by decide) rfl (fun ls hl => ?_)
  refine lv_iload_n hx hb dX1_format_5 rfl (lv_at hl 0 rfl) ?_
  refine lv_bipush (v := nI 10) hx hb dX1_format_6 (by decide +kernel) ?_
  refine lv_ishl hx hb dX1_format_8 ?_
  refine lv_aload_n hx hb dX1_format_9 rfl (lv_at hl 1 rfl) ?_
  refine lv_iload_n hx hb dX1_format_10 rfl (lv_at hl 0 rfl) ?_
  refine lv_sipush (v := nI 1335) hx hb dX1_format_11 (by decide +kernel) ?_
  refine vp_callSi (W.runV (As := [.int (nI (x % 32)), .int (nI 1335)]) (rest := [.int (nI (x % 32) <<< (nI 10 &&& 31))]) ⟨hx, hb, hml, hown, hts⟩ (met_m_divided l h0 (x % 32) 1335 (by omega) (by decide) (by decide)) (cwV 2 hts (lw_V q131 q133 qs1 q4 q134) rfl rfl rfl (by decide +kernel) ⟨Nat.le_of_ble_eq_true rfl, Nat.le_of_ble_eq_true rfl⟩) (bm_pre hrv) rfl rfl hl.1 rfl (lv_room (Nat.le_of_ble_eq_true rfl)) dX1_format_14 ⟨Nat.le_of_ble_eq_true rfl, Nat.le_of_ble_eq_true rfl⟩) (fun r er => ?_)
  obtain rfl : r = nI (bc_rem (x % 32) 1335) := er
  refine lv_ior hx hb dX1_format_17 ?_
  refine lv_sipush (v := nI 21522) hx hb dX1_format_18 (by decide +kernel) ?_
  refine lv_ixor hx hb dX1_format_21 ?_
  exact W.iret hx hb hr (fun t ht hW => ⟨_, rfl, show ((nI (x % 32) <<< (nI 10 &&& 31)) ||| nI (bc_rem (x % 32) 1335)) ^^^ nI 21522 = bc_fmt x from rfl, ht⟩) (fun q hq => by cases hq) dX1_format_22
set_option maxHeartbeats 4000000 in
/-- BchDeskModel.version(x) -/
theorem met_m_version (l : Launch) (h0 : Nat) (x : Nat) (hx32 : x < 4294967296) : Met l yX1_version wsX1_version ({ frames := 2, cells := 0, slots := 0, locals := 48 }) (bm_Pc h0 [.int (nI x)]) (vp_Si (fun r => r = bc_ver x)) 0 0 (fun _ => False) := by
  refine Met.ofW (cc := cX1_version) (maxL := 3) (ret := (some .int)) (by decide) rfl ?_
  intro p e s m args below meth c s₁ B hml hv
  obtain ⟨rfl, hrv⟩ := hv
  have hx := B.exec
  have hb := B.bytes
  have hr := B.returns
  have hts := atoms_spec (ws := wsX1_version) B.pre
  have hts : ∀ w ∈ lw_all, w.before _ s = true := fun w h => hts w (List.mem_cons_of_mem _ h)
  have hown : s.vm.findClass RX1 = some m.cls := findClass_of_methodNamed B.named
  have hlocks := B.notSynchronized
  have hl := lv_entry ([.ref h0, .int (nI x)]) (n := 3) (Nat.le_of_ble_eq_true rfl)
  rw [lg_entry_eq]
  generalize (lg_sl ([.ref h0, .int (nI x)]) ++ List.replicate (3 - (lg_sl ([.ref h0, .int (nI x)])).length) Slot.unset).toArray = ls at hl ⊢
  have hl : lv_has ls 3 [(0, .ref h0), (1, .int (nI x))] := hl
  have hm := Nat.mod_lt x (show 0 < 2147483648 by decide)
  have hm2 := Nat.mod_lt (x % 2147483648) (show 0 < 34 by decide)
  refine lv_bipush (v := nI 7) hx hb dX1_version_0 (by decide +kernel) ?_
  refine lv_iload_n hx hb dX1_version_2 rfl (lv_at hl 1 rfl) ?_
  refine lv_ldc (v := nI 2147483647) hx hb hown (hts _ q144) dX1_version_3 ?_
  refine lv_iand hx hb dX1_version_5 ?_
  rw [show nI x &&& nI 2147483647 = nI (x % 2147483648) from bc_mask x 31]
  refine lv_bipush (v := nI 34) hx hb dX1_version_6 (by decide +kernel) ?_
  refine lv_irem hx hb dX1_version_8 (by decide +kernel) ?_
  rw [bc_mod (k := 34) hm (by decide) (by decide)]
  refine lv_iadd hx hb dX1_version_9 ?_
  rw [nI_add]
  refine lv_istore_n (lv' := [(2, .int (nI (7 + x % 2147483648 % 34))), (0, .ref h0), (1, .int (nI x))]) hx hb dX1_version_10 rfl hl (by decide) rfl (fun ls hl => ?_)
  refine lv_iload_n hx hb dX1_version_11 rfl (lv_at hl 0 rfl) ?_
  refine lv_bipush (v := nI 12) hx hb dX1_version_12 (by decide +kernel) ?_
  refine lv_ishl hx hb dX1_version_14 ?_
  refine lv_aload_n hx hb dX1_version_15 rfl (lv_at hl 1 rfl) ?_
  refine lv_iload_n hx hb dX1_version_16 rfl (lv_at hl 0 rfl) ?_
  refine lv_sipush (v := nI 7973) hx hb dX1_version_17 (by decide +kernel) ?_
  refine vp_callSi (W.runV (As := [.int (nI (7 + x % 2147483648 % 34)), .int (nI 7973)]) (rest := [.int (nI (7 + x % 2147483648 % 34) <<< (nI 12 &&& 31))]) ⟨hx, hb, hml, hown, hts⟩ (met_m_divided l h0 (7 + x % 2147483648 % 34) 7973 (by omega) (by decide) (by decide)) (cwV 2 hts (lw_V q131 q133 qs1 q4 q134) rfl rfl rfl (by decide +kernel) ⟨Nat.le_of_ble_eq_true rfl, Nat.le_of_ble_eq_true rfl⟩) (bm_pre hrv) rfl rfl hl.1 rfl (lv_room (Nat.le_of_ble_eq_true rfl)) dX1_version_20 ⟨Nat.le_of_ble_eq_true rfl, Nat.le_of_ble_eq_true rfl⟩) (fun r er => ?_)
  obtain rfl : r = nI (bc_rem (7 + x % 2147483648 % 34) 7973) := er
  refine lv_ior hx hb dX1_version_23 ?_
  exact W.iret hx hb hr (fun t ht hW => ⟨_, rfl, show (nI (7 + x % 2147483648 % 34) <<< (nI 12 &&& 31)) ||| nI (bc_rem (7 + x % 2147483648 % 34) 7973) = bc_ver x from rfl, ht⟩) (fun q hq => by cases hq) dX1_version_24
end
section
/-! THE CLAIM OUT OF ONE WALK OF THE LAW'S BODY. Your part is whole_start (and what it stands on); all else here is the same for every law, but numbers. -/
def R_law : String := "BchDeskLaw"
def lw_P (b : Addr) (xs : List Int32) (args : Array Value) (s : State) : Prop := args = #[.ref b] ∧ s.IntsAt b xs ∧ xs.length ≤ 288 ∧ (Jvm.Cond.and given_1 narrow_1).before args s = true
def lw_Q (_ : Array Value) (s : State) (o : Outcome) (t : State) : Prop := o = .returned (some (.int 1)) ∧ Framed s o t [] 600000 7290000
def lw_Z (below : List Frame) (a : Array Value) (s : State) : State → Prop := fun t => ∃ o, t.status = .running ∧ Ended t below o ∧ lw_Q a s o t
/-- the law's own end, with 1 on the stack, nothing written that was there before, its room as the claim has it -/
theorem lw_ret {p : Program} {l : Launch} {e : Env} {s : State} {m : MethodId} {below : List Frame} {meth : Method} {c : Code} {b : Nat} (hx : p.tables.exec = Jvm.exec) (hb : c.code = code) (hr : meth.sig.returnType = ret) (hlocks : meth.locks = false) {pc : Nat} {H : Heap} {ls : Array Slot} (hdg : decode code pc = .ok (.ireturn, 1)) : W p l e room_1 s m #[Value.ref b] below meth c H [] 600000 7290000 (lw_Z below #[Value.ref b] s) (F0 m pc ls [.int 1]) := by
  intro T hT X
  obtain ⟨fs, hret, hrun, hended, hW, hframe⟩ := X.leave (v := some (.int 1)) (hlocks := hlocks) (fun h => by rw [hr] at h; cases h)
  have hmeth' : T.vm.method? m = some meth := X.method'
  refine ⟨T.setFrames fs, ?_, .returned (some (.int 1)), hrun, hended, rfl, ⟨_, rfl⟩, hW, hframe⟩
  jvm_step X.here [X.here.top, hx, hb, hdg, hmeth', hr, ret, narrow_b1]
  (try refine ⟨rfl, ?_⟩); (try refine ⟨rfl, ?_⟩)
  first | (intro acts; rw [hret _ acts rfl rfl rfl]) | rw [hret _ _ rfl rfl rfl]
  exact Steps.refl _
/-- what holds at the law's entry: the machine, the code, the tables' words (any of lw_tbl by 'hts w (by decide +kernel)'), the script of L ints xs at the cell b, what the Statement gives of the start (any of its parts by flat_of_before) -/
def lw_At (p : Program) (s : State) (m : MethodId) (meth : Method) (c : Code) (b L : Nat) (xs : Nat → Int32) : Prop :=
  p.tables.exec = Jvm.exec ∧ c.code = code ∧ meth.sig.returnType = ret ∧ c.maxLocals = 4 ∧ s.vm.findClass R_law = some m.cls ∧ (∀ w ∈ lw_tbl, w.before #[Value.ref b] s = true) ∧ va_X b L xs s s.heap ∧ b < s.heap.size ∧ meth.locks = false ∧ (Jvm.Cond.and given_1 narrow_1).before #[Value.ref b] s = true
end
section
/-! THE LAW: the two constructors, its loop, its entry (by gen_law.py) -/
set_option maxRecDepth 100000
def TX0 : u_T := fun _ => ("BchDesk", "", "I", false)
def TX1 : u_T := fun _ => ("BchDeskModel", "", "I", false)
def ty_0 : Nat → FieldType := fun _ => .int
theorem ty_ok (T : u_T) : ∀ k, k < 0 → parseFieldDescriptor (T k).2.2.1 = some (ty_0 k) := fun k h => absurd h (Nat.not_lt_zero k)
theorem in_none (C : String) (T : u_T) : ∀ w ∈ u_ws C T 0, w ∈ lw_all := fun w h => absurd (show w ∈ ([] : List Cond) from h) List.not_mem_nil
abbrev vwCl : List vw_C := [(RX0, TX0, 0), (RX1, TX1, 0)]
set_option maxHeartbeats 4000000 in
/-- the constructor: nothing is written -/
theorem met_d_init (l : Launch) (h0 : Nat) : Met l yX0_init wsX0_init ({ frames := 1, cells := 0, slots := 0, locals := 12 }) (bc_Pc [.ref h0]) (va_Sv (fun _ => True)) 0 0 (fun _ => False) := by
  refine Met.ofW (cc := cX0_init) (maxL := 1) (ret := none) (by decide) rfl ?_
  intro p e s m args below meth c s₁ B hml hv
  obtain rfl : args = ([.ref h0] : List Value).toArray := hv
  have hx := B.exec
  have hb := B.bytes
  have hr := B.returns
  have hts := atoms_spec (ws := wsX0_init) B.pre
  have hts : ∀ w ∈ lw_all, w.before _ s = true := fun w h => hts w (List.mem_cons_of_mem _ h)
  have hown : s.vm.findClass RX0 = some m.cls := findClass_of_methodNamed B.named
  have hlocks := B.notSynchronized
  have hl := lv_entry ([.ref h0]) (n := 1) (Nat.le_of_ble_eq_true rfl)
  rw [lg_entry_eq]
  generalize (lg_sl ([.ref h0]) ++ List.replicate (1 - (lg_sl ([.ref h0])).length) Slot.unset).toArray = ls at hl ⊢
  have hl : lv_has ls 1 [(0, .ref h0)] := hl
  refine lv_aload_n hx hb dX0_init_0 rfl (lv_at hl 0 rfl) ?_
  refine W.objInit hx hb hown (hts _ q16) (hts _ q17) (hts _ q18) rfl (by rw [hml]; exact hl.1) rfl dX0_init_1 (Nat.le_of_ble_eq_true rfl) (Nat.le_of_ble_eq_true rfl) ?_
  refine W.eq (g2 := F0 m 4 ls []) rfl ?_
  exact W.vret hx hb hr (fun t ht hW => ⟨rfl, trivial, ht⟩) (fun q hq => by cases hq) dX0_init_4
set_option maxHeartbeats 4000000 in
/-- the constructor: nothing is written -/
theorem met_m_init (l : Launch) (h0 : Nat) : Met l yX1_init wsX1_init ({ frames := 1, cells := 0, slots := 0, locals := 12 }) (bc_Pc [.ref h0]) (va_Sv (fun _ => True)) 0 0 (fun _ => False) := by
  refine Met.ofW (cc := cX1_init) (maxL := 1) (ret := none) (by decide) rfl ?_
  intro p e s m args below meth c s₁ B hml hv
  obtain rfl : args = ([.ref h0] : List Value).toArray := hv
  have hx := B.exec
  have hb := B.bytes
  have hr := B.returns
  have hts := atoms_spec (ws := wsX1_init) B.pre
  have hts : ∀ w ∈ lw_all, w.before _ s = true := fun w h => hts w (List.mem_cons_of_mem _ h)
  have hown : s.vm.findClass RX1 = some m.cls := findClass_of_methodNamed B.named
  have hlocks := B.notSynchronized
  have hl := lv_entry ([.ref h0]) (n := 1) (Nat.le_of_ble_eq_true rfl)
  rw [lg_entry_eq]
  generalize (lg_sl ([.ref h0]) ++ List.replicate (1 - (lg_sl ([.ref h0])).length) Slot.unset).toArray = ls at hl ⊢
  have hl : lv_has ls 1 [(0, .ref h0)] := hl
  refine lv_aload_n hx hb dX1_init_0 rfl (lv_at hl 0 rfl) ?_
  refine W.objInit hx hb hown (hts _ q120) (hts _ q17) (hts _ q18) rfl (by rw [hml]; exact hl.1) rfl dX1_init_1 (Nat.le_of_ble_eq_true rfl) (Nat.le_of_ble_eq_true rfl) ?_
  refine W.eq (g2 := F0 m 4 ls []) rfl ?_
  exact W.vret hx hb hr (fun t ht hW => ⟨rfl, trivial, ht⟩) (fun q hq => by cases hq) dX1_init_4
section LAW
variable {p : Program} {l : Launch} {e : Env} {s : State} {m : MethodId} {below : List Frame} {meth : Method} {c : Code} {b L : Nat} {xs : Nat → Int32} {H : Heap} {Q : State → Prop} {cells slots : Nat} {q0 q1 i : Nat} {ls : Array Slot} {rest : List Value}
/-- script[i + j] comes onto the stack -/
theorem law_ld (C0 : lw_At p s m meth c b L xs) (hL : L ≤ 288) (hS : va_S (fun q : Nat => s.heap.size ≤ q) s.heap H []) (hl : lv_has ls 4 [(0, .ref b), (1, .ref q0), (2, .ref q1), (3, .int (nI i))]) {pc j n : Nat} {z : Int} (d0 : decode code pc = .ok (.aload_n 0, 1)) (d1 : decode code (pc + 1) = .ok (.iload_n 3, 1)) (d2 : decode code (pc + 1 + 1) = .ok (.iconst z, 1)) (hz : Int32.ofInt z = nI j) (d3 : decode code (pc + 1 + 1 + 1) = .ok (.iadd, 1)) (d4 : decode code (pc + 1 + 1 + 1 + 1) = .ok (.iaload, 1)) (hi : i + j < L) (en : xs (i + j) = nI n)
    (k : W p l e room_1 s m #[Value.ref b] below meth c H [] cells slots Q (F0 m (pc + 5) ls (.int (nI n) :: rest))) : W p l e room_1 s m #[Value.ref b] below meth c H [] cells slots Q (F0 m pc ls rest) := by
  obtain ⟨hx, hb, hr, hml, hown, hts0, hX, hbl, hlocks, hgv⟩ := C0
  have hbA : ¬ (fun q : Nat => s.heap.size ≤ q) b := Nat.not_le.mpr hbl
  refine lv_aload_n hx hb d0 rfl (lv_at hl 0 rfl) ?_
  refine lv_iload_n hx hb d1 rfl (lv_at hl 3 rfl) ?_
  refine lv_iconst (v := nI j) hx hb d2 hz ?_
  refine lv_iadd hx hb d3 ?_
  rw [nI_add]
  refine va_sld hx hb hX hbl hbA hS (vp_in_nI hi (by omega)) d4 ?_
  rw [nI_clamp (show i + j < 2 ^ 31 by omega), en]
  exact k
set_option maxHeartbeats 8000000 in
/-- the law's loop at its head: i ints are read, and every answer was the same -/
theorem law_loop (hL : L ≤ 288) (C0 : lw_At p s m meth c b L xs) {dC : Nat → ClassId} {dI : Nat → Nat → Nat} (hK : va_K (dC, dI) vwCl [] s) (hP : va_P (dC, dI) vwCl [(q0, .inr (0, [])), (q1, .inr (1, []))] H) (hS : va_S (fun q : Nat => s.heap.size ≤ q) s.heap H []) :
    ∀ (n i : Nat) (ls : Array Slot), i ≤ L → L + 1 ≤ i + n → lv_has ls 4 [(0, .ref b), (1, .ref q0), (2, .ref q1), (3, .int (nI i))] → W p l e room_1 s m #[Value.ref b] below meth c H [] 2 0 (lw_Z below #[Value.ref b] s) (F0 m 18 ls []) := by
  obtain ⟨hx, hb, hr, hml, hown, hts0, hX, hbl, hlocks, hgv⟩ := id C0
  have hts : ∀ w ∈ lw_all, w.before #[Value.ref b] s = true := fun w h => hts0 w (lw_all_tbl h)
  have hbA : ¬ (fun q : Nat => s.heap.size ≤ q) b := Nat.not_le.mpr hbl
  have rv0 : ∃ cell : Cell, H[q0]? = some cell ∧ cell.vm.isStatics = false ∧ s.vm.findClass RX0 = some cell.cls := va_recv (q := (RX0, TX0, 0)) hK hP (ci := 0) (q0 := 0) rfl rfl
  have rv1 : ∃ cell : Cell, H[q1]? = some cell ∧ cell.vm.isStatics = false ∧ s.vm.findClass RX1 = some cell.cls := va_recv (q := (RX1, TX1, 0)) hK hP (ci := 1) (q0 := 1) rfl rfl
  intro n
  induction n with
  | zero =>
    intro i ls h1 h2
    exact absurd h2 (by omega)
  | succ n ih =>
    intro i ls hi hin hl
    refine lv_iload_n hx hb dL_law_18 rfl (lv_at hl 3 rfl) ?_
    refine lv_aload_n hx hb dL_law_19 rfl (lv_at hl 0 rfl) ?_
    refine va_slen hx hb hX hbl hbA hS dL_law_20 ?_
    refine lv_bipush (v := nI 6) hx hb dL_law_21 (by decide +kernel) ?_
    refine lv_isub hx hb dL_law_23 ?_
    refine lv_icmp_gt (tgt := 172) hx hb dL_law_24 (by decide) (fun h => ?_) (fun h => ?_)
    · refine lv_iconst (v := 1) hx hb dL_law_172 (by decide) ?_
      refine W.widen (k := 600000) (n := 7290000) (Nat.le_of_ble_eq_true rfl) (Nat.le_of_ble_eq_true rfl) ?_
      exact lw_ret hx hb hr hlocks dL_law_173
    · have hlt : i + 6 ≤ L := by
        rcases Nat.lt_or_ge L (i + 6) with q | q
        · exact absurd ((bc_room hL hi).mpr q) h
        · exact q
      have K : ∀ ls : Array Slot, lv_has ls 4 [(0, .ref b), (1, .ref q0), (2, .ref q1), (3, .int (nI i))] → W p l e room_1 s m #[Value.ref b] below meth c H [] 2 0 (lw_Z below #[Value.ref b] s) (F0 m 166 ls []) := by
        intro ls hl
        refine lv_iinc (v := nI (i + 6)) (lv' := [(3, .int (nI (i + 6))), (0, .ref b), (1, .ref q0), (2, .ref q1)]) hx hb dL_law_166 hl (k := 3) rfl (bc_inc (c := 6) (by decide +kernel)) (by decide) rfl (fun ls hl => ?_)
        refine lv_goto (tgt := 18) hx hb dL_law_169 (by decide) ?_
        exact ih (i + 6) ls hlt (by omega) (lv_sub hl [1, 2, 3, 0] rfl)
      obtain ⟨n0, hn0, e0⟩ := wb_of32 (xs i)
      obtain ⟨n1, hn1, e1⟩ := wb_of32 (xs (i + 1))
      obtain ⟨n2, hn2, e2⟩ := wb_of32 (xs (i + 2))
      refine lv_aload_n hx hb dL_law_27 rfl (lv_at hl 0 rfl) ?_
      refine lv_iload_n hx hb dL_law_28 rfl (lv_at hl 3 rfl) ?_
      refine va_sld hx hb hX hbl hbA hS (vp_in_nI (show i < L by omega) (by omega)) dL_law_29 ?_
      rw [nI_clamp (show i < 2 ^ 31 by omega), e0]
      refine lv_iconst (v := nI 3) hx hb dL_law_30 (by decide +kernel) ?_
      refine lv_iand hx hb dL_law_31 ?_
      rw [show nI n0 &&& nI 3 = nI (n0 % 4) from bc_mask n0 2]
      have hm4 := Nat.mod_lt n0 (show 0 < 4 by decide)
      generalize n0 % 4 = sel at hm4 ⊢
      rcases (show sel = 0 ∨ sel = 1 ∨ sel = 2 ∨ sel = 3 by omega) with rfl | rfl | rfl | rfl
      · refine lv_tableIn (off := 32) (tgt := 64) hx hb dL_law_32 (by decide +kernel) (by decide +kernel) (by decide +kernel) (by decide) ?_
        refine lv_aload_n hx hb dL_law_64 rfl (lv_at hl 1 rfl) ?_
        refine law_ld C0 hL hS hl (pc := 65) (j := 1) dL_law_65 dL_law_66 dL_law_67 (by decide +kernel) dL_law_68 dL_law_69 (by omega) e1 ?_
        refine vp_callSi (W.runV (As := [.int (nI n1)]) (rest := []) ⟨hx, hb, hml, hown, hts⟩ (met_d_highest l q0 n1 hn1) (cwV 1 hts (lw_V q20 q21 q22 q3 q23) rfl rfl rfl (by decide +kernel) ⟨Nat.le_of_ble_eq_true rfl, Nat.le_of_ble_eq_true rfl⟩) (bc_preV rv0) rfl rfl hl.1 rfl (lv_room (Nat.le_of_ble_eq_true rfl)) dL_law_70 ⟨Nat.le_of_ble_eq_true rfl, Nat.le_of_ble_eq_true rfl⟩) (fun r er => ?_)
        obtain rfl : r = nI (bc_len n1) := er
        refine lv_aload_n hx hb dL_law_73 rfl (lv_at hl 2 rfl) ?_
        refine law_ld C0 hL hS hl (pc := 74) (j := 1) dL_law_74 dL_law_75 dL_law_76 (by decide +kernel) dL_law_77 dL_law_78 (by omega) e1 ?_
        refine vp_callSi (W.runV (As := [.int (nI n1)]) (rest := [.int (nI (bc_len n1))]) ⟨hx, hb, hml, hown, hts⟩ (met_m_highest l q1 n1 hn1) (cwV 1 hts (lw_V q122 q123 q124 q4 q125) rfl rfl rfl (by decide +kernel) ⟨Nat.le_of_ble_eq_true rfl, Nat.le_of_ble_eq_true rfl⟩) (bc_preV rv1) rfl rfl hl.1 rfl (lv_room (Nat.le_of_ble_eq_true rfl)) dL_law_79 ⟨Nat.le_of_ble_eq_true rfl, Nat.le_of_ble_eq_true rfl⟩) (fun r er => ?_)
        obtain rfl : r = nI (bc_len n1) := er
        exact lv_icmp_eq (tgt := 166) hx hb dL_law_82 (by decide) (fun _ => K ls hl) (fun h => absurd rfl h)
      · refine lv_tableIn (off := 55) (tgt := 87) hx hb dL_law_32 (by decide +kernel) (by decide +kernel) (by decide +kernel) (by decide) ?_
        refine lv_aload_n hx hb dL_law_87 rfl (lv_at hl 1 rfl) ?_
        refine law_ld C0 hL hS hl (pc := 88) (j := 1) dL_law_88 dL_law_89 dL_law_90 (by decide +kernel) dL_law_91 dL_law_92 (by omega) e1 ?_
        refine law_ld C0 hL hS hl (pc := 93) (j := 2) dL_law_93 dL_law_94 dL_law_95 (by decide +kernel) dL_law_96 dL_law_97 (by omega) e2 ?_
        refine vp_callSi (W.runV (As := [.int (nI n1), .int (nI n2)]) (rest := []) ⟨hx, hb, hml, hown, hts⟩ (met_d_rest l q0 n1 n2 hn1 hn2) (cwV 2 hts (lw_V q31 q32 q33 q3 q34) rfl rfl rfl (by decide +kernel) ⟨Nat.le_of_ble_eq_true rfl, Nat.le_of_ble_eq_true rfl⟩) (bc_preV rv0) rfl rfl hl.1 rfl (lv_room (Nat.le_of_ble_eq_true rfl)) dL_law_98 ⟨Nat.le_of_ble_eq_true rfl, Nat.le_of_ble_eq_true rfl⟩) (fun r er => ?_)
        obtain rfl : r = nI (bc_rem (n1 % 65536) (2 + n2 % 8192)) := er
        refine lv_aload_n hx hb dL_law_101 rfl (lv_at hl 2 rfl) ?_
        refine law_ld C0 hL hS hl (pc := 102) (j := 1) dL_law_102 dL_law_103 dL_law_104 (by decide +kernel) dL_law_105 dL_law_106 (by omega) e1 ?_
        refine law_ld C0 hL hS hl (pc := 107) (j := 2) dL_law_107 dL_law_108 dL_law_109 (by decide +kernel) dL_law_110 dL_law_111 (by omega) e2 ?_
        refine vp_callSi (W.runV (As := [.int (nI n1), .int (nI n2)]) (rest := [.int (nI (bc_rem (n1 % 65536) (2 + n2 % 8192)))]) ⟨hx, hb, hml, hown, hts⟩ (met_m_rest l q1 n1 n2 hn1 hn2) (cwV 2 hts (lw_V q126 q127 q128 q4 q129) rfl rfl rfl (by decide +kernel) ⟨Nat.le_of_ble_eq_true rfl, Nat.le_of_ble_eq_true rfl⟩) (bm_pre rv1) rfl rfl hl.1 rfl (lv_room (Nat.le_of_ble_eq_true rfl)) dL_law_112 ⟨Nat.le_of_ble_eq_true rfl, Nat.le_of_ble_eq_true rfl⟩) (fun r er => ?_)
        obtain rfl : r = nI (bc_rem (n1 % 65536) (2 + n2 % 8192)) := er
        exact lv_icmp_eq (tgt := 166) hx hb dL_law_115 (by decide) (fun _ => K ls hl) (fun h => absurd rfl h)
      · refine lv_tableIn (off := 88) (tgt := 120) hx hb dL_law_32 (by decide +kernel) (by decide +kernel) (by decide +kernel) (by decide) ?_
        refine lv_aload_n hx hb dL_law_120 rfl (lv_at hl 1 rfl) ?_
        refine law_ld C0 hL hS hl (pc := 121) (j := 1) dL_law_121 dL_law_122 dL_law_123 (by decide +kernel) dL_law_124 dL_law_125 (by omega) e1 ?_
        refine vp_callSi (W.runV (As := [.int (nI n1)]) (rest := []) ⟨hx, hb, hml, hown, hts⟩ (met_d_format l q0 n1 hn1) (cwV 1 hts (lw_V q106 q107 q108 q3 q109) rfl rfl rfl (by decide +kernel) ⟨Nat.le_of_ble_eq_true rfl, Nat.le_of_ble_eq_true rfl⟩) (bc_preV rv0) rfl rfl hl.1 rfl (lv_room (Nat.le_of_ble_eq_true rfl)) dL_law_126 ⟨Nat.le_of_ble_eq_true rfl, Nat.le_of_ble_eq_true rfl⟩) (fun r er => ?_)
        obtain rfl : r = bc_fmt n1 := er
        refine lv_aload_n hx hb dL_law_129 rfl (lv_at hl 2 rfl) ?_
        refine law_ld C0 hL hS hl (pc := 130) (j := 1) dL_law_130 dL_law_131 dL_law_132 (by decide +kernel) dL_law_133 dL_law_134 (by omega) e1 ?_
        refine vp_callSi (W.runV (As := [.int (nI n1)]) (rest := [.int (bc_fmt n1)]) ⟨hx, hb, hml, hown, hts⟩ (met_m_format l q1 n1 hn1) (cwV 1 hts (lw_V q136 q137 q138 q4 q139) rfl rfl rfl (by decide +kernel) ⟨Nat.le_of_ble_eq_true rfl, Nat.le_of_ble_eq_true rfl⟩) (bm_pre rv1) rfl rfl hl.1 rfl (lv_room (Nat.le_of_ble_eq_true rfl)) dL_law_135 ⟨Nat.le_of_ble_eq_true rfl, Nat.le_of_ble_eq_true rfl⟩) (fun r er => ?_)
        obtain rfl : r = bc_fmt n1 := er
        exact lv_icmp_eq (tgt := 166) hx hb dL_law_138 (by decide) (fun _ => K ls hl) (fun h => absurd rfl h)
      · refine lv_tableIn (off := 111) (tgt := 143) hx hb dL_law_32 (by decide +kernel) (by decide +kernel) (by decide +kernel) (by decide) ?_
        refine lv_aload_n hx hb dL_law_143 rfl (lv_at hl 1 rfl) ?_
        refine law_ld C0 hL hS hl (pc := 144) (j := 1) dL_law_144 dL_law_145 dL_law_146 (by decide +kernel) dL_law_147 dL_law_148 (by omega) e1 ?_
        refine vp_callSi (W.runV (As := [.int (nI n1)]) (rest := []) ⟨hx, hb, hml, hown, hts⟩ (met_d_version l q0 n1 hn1) (cwV 1 hts (lw_V q110 q111 q112 q3 q113) rfl rfl rfl (by decide +kernel) ⟨Nat.le_of_ble_eq_true rfl, Nat.le_of_ble_eq_true rfl⟩) (bc_preV rv0) rfl rfl hl.1 rfl (lv_room (Nat.le_of_ble_eq_true rfl)) dL_law_149 ⟨Nat.le_of_ble_eq_true rfl, Nat.le_of_ble_eq_true rfl⟩) (fun r er => ?_)
        obtain rfl : r = bc_ver n1 := er
        refine lv_aload_n hx hb dL_law_152 rfl (lv_at hl 2 rfl) ?_
        refine law_ld C0 hL hS hl (pc := 153) (j := 1) dL_law_153 dL_law_154 dL_law_155 (by decide +kernel) dL_law_156 dL_law_157 (by omega) e1 ?_
        refine vp_callSi (W.runV (As := [.int (nI n1)]) (rest := [.int (bc_ver n1)]) ⟨hx, hb, hml, hown, hts⟩ (met_m_version l q1 n1 hn1) (cwV 1 hts (lw_V q140 q141 q142 q4 q143) rfl rfl rfl (by decide +kernel) ⟨Nat.le_of_ble_eq_true rfl, Nat.le_of_ble_eq_true rfl⟩) (bm_pre rv1) rfl rfl hl.1 rfl (lv_room (Nat.le_of_ble_eq_true rfl)) dL_law_158 ⟨Nat.le_of_ble_eq_true rfl, Nat.le_of_ble_eq_true rfl⟩) (fun r er => ?_)
        obtain rfl : r = bc_ver n1 := er
        exact lv_icmp_eq (tgt := 166) hx hb dL_law_161 (by decide) (fun _ => K ls hl) (fun h => absurd rfl h)
end LAW
set_option maxHeartbeats 4000000 in
/-- THE LAW, from its entry -/
theorem whole_start {p : Program} {e : Env} {s : State} {m : MethodId} {below : List Frame} {meth : Method} {c : Code} (l : Launch) (hflags : l.flags = flags0) {b L : Nat} {xs : Nat → Int32} (hL : L ≤ 288) (C0 : lw_At p s m meth c b L xs) : W p l e room_1 s m #[Value.ref b] below meth c s.heap [] 0 0 (lw_Z below #[Value.ref b] s) (entryFrame m ([Value.ref b] : List Value).toArray 4) := by
  obtain ⟨hx, hb, hr, hml, hown, hts0, hX, hbl, hlocks, hgv⟩ := id C0
  have hts : ∀ w ∈ lw_all, w.before #[Value.ref b] s = true := fun w h => hts0 w (lw_all_tbl h)
  have hA : ∀ q : Nat, s.heap.size ≤ q → (fun q : Nat => s.heap.size ≤ q) q := fun _ h => h
  obtain ⟨c0, iS0, hKn0⟩ := u_known (C := RX0) (T := TX0) (N := 0) (n := 0) hts (in_none RX0 TX0) (hts _ q12)
  obtain ⟨c1, iS1, hKn1⟩ := u_known (C := RX1) (T := TX1) (N := 0) (n := 0) hts (in_none RX1 TX1) (hts _ q116)
  obtain ⟨dC, dI, hKc⟩ : ∃ (dC : Nat → ClassId) (dI : Nat → Nat → Nat), ∀ (k : Nat) (q : vw_C), vwCl[k]? = some q → u_Kn s q.1 q.2.1 q.2.2 (dC k) (dI k) := by
    refine ⟨fun k => if k = 0 then c0 else c1, fun k => if k = 0 then iS0 else iS1, ?_⟩
    intro k q hq
    match k, hq with
    | 0, hq => cases hq; exact hKn0
    | 1, hq => cases hq; exact hKn1
    | k + 2, hq => simp [vwCl] at hq
  have hS : va_S (fun q : Nat => s.heap.size ≤ q) s.heap s.heap [] := va_S.rf
  have hK : va_K (dC, dI) vwCl [] s := ⟨hKc, fun k q h => by simp at h⟩
  have hP : va_P (dC, dI) vwCl [] s.heap := fun k q h => by simp at h
  have hD : va_D (fun q : Nat => s.heap.size ≤ q) [] := ⟨fun i j p q h => by simp at h, fun k q h => by simp at h⟩
  have hl := lv_entry ([.ref b]) (n := 4) (Nat.le_of_ble_eq_true rfl)
  rw [lg_entry_eq]
  generalize (lg_sl ([.ref b]) ++ List.replicate (4 - (lg_sl ([.ref b])).length) Slot.unset).toArray = ls at hl ⊢
  have hl : lv_has ls 4 [(0, .ref b)] := hl
  refine va_new (ci := 0) (fs := []) (C := RX0) (T := TX0) (N := 0) hx hb hts (in_none RX0 TX0) ty_0 (ty_ok TX0) hown (hts _ q11) (hts _ q12) (hts _ q3) hK hP hD hS hA rfl (fun j hj => absurd hj (Nat.not_lt_zero j)) (Nat.le_of_ble_eq_true rfl) (Nat.le_of_ble_eq_true rfl) dL_law_0 (fun v0 H hP hD hS => ?_)
  have hP : va_P (dC, dI) vwCl [(v0, .inr (0, []))] H := hP
  have hD : va_D (fun q : Nat => s.heap.size ≤ q) [(v0, .inr (0, []))] := hD
  refine W.widen (k := 1) (n := 0) (Nat.le_refl _) (Nat.le_refl _) ?_
  refine lv_dup hx hb dL_law_3 rfl ?_
  refine va_csv (W.runI (As := []) (rest := [.ref v0]) ⟨hx, hb, hml, hown, hts⟩ (met_d_init l v0) (cwI 0 hts (lw_meth q15) rfl rfl rfl (hts _ q3) (hts _ q13) (hts _ q14) rfl (by decide +kernel) ⟨Nat.le_of_ble_eq_true rfl, Nat.le_of_ble_eq_true rfl⟩) bc_pre rfl rfl hl.1 rfl (lv_room (Nat.le_of_ble_eq_true rfl)) dL_law_4 ⟨Nat.le_of_ble_eq_true rfl, Nat.le_of_ble_eq_true rfl⟩) (fun _ => ?_)
  refine lv_astore_n (lv' := [(1, .ref v0), (0, .ref b)]) hx hb dL_law_7 rfl hl (by decide) rfl (fun ls hl => ?_)
  refine va_new (ci := 1) (fs := []) (C := RX1) (T := TX1) (N := 0) hx hb hts (in_none RX1 TX1) ty_0 (ty_ok TX1) hown (hts _ q115) (hts _ q116) (hts _ q4) hK hP hD hS hA rfl (fun j hj => absurd hj (Nat.not_lt_zero j)) (Nat.le_of_ble_eq_true rfl) (Nat.le_of_ble_eq_true rfl) dL_law_8 (fun v1 H hP hD hS => ?_)
  have hP : va_P (dC, dI) vwCl [(v0, .inr (0, [])), (v1, .inr (1, []))] H := hP
  refine W.widen (k := 2) (n := 0) (Nat.le_refl _) (Nat.le_refl _) ?_
  refine lv_dup hx hb dL_law_11 rfl ?_
  refine va_csv (W.runI (As := []) (rest := [.ref v1]) ⟨hx, hb, hml, hown, hts⟩ (met_m_init l v1) (cwI 0 hts (lw_meth q119) rfl rfl rfl (hts _ q4) (hts _ q117) (hts _ q118) rfl (by decide +kernel) ⟨Nat.le_of_ble_eq_true rfl, Nat.le_of_ble_eq_true rfl⟩) bc_pre rfl rfl hl.1 rfl (lv_room (Nat.le_of_ble_eq_true rfl)) dL_law_12 ⟨Nat.le_of_ble_eq_true rfl, Nat.le_of_ble_eq_true rfl⟩) (fun _ => ?_)
  refine lv_astore_n (lv' := [(2, .ref v1), (1, .ref v0), (0, .ref b)]) hx hb dL_law_15 rfl hl (by decide) rfl (fun ls hl => ?_)
  refine lv_iconst (v := nI 0) hx hb dL_law_16 (by decide +kernel) ?_
  refine lv_istore_n (lv' := [(3, .int (nI 0)), (2, .ref v1), (1, .ref v0), (0, .ref b)]) hx hb dL_law_17 rfl hl (by decide) rfl (fun ls hl => ?_)
  exact law_loop hL C0 hK hP hS (L + 1) 0 ls (Nat.zero_le L) (by omega) (lv_sub hl [3, 2, 1, 0] rfl)
end
section
set_option maxHeartbeats 4000000 in
theorem lw_walk (l : Launch) (hflags : l.flags = flags0) (b : Addr) (xs : List Int32) : MetFree l x (headSpec (Jvm.Cond.code x code maxLocals ret :: tables_1) room_1) (lw_P b xs) (fun _ _ _ _ _ => True) lw_Q := by
  refine MetFree.of_bodyS (code := code) (maxLocals := maxLocals) (ret := ret) (by decide) ?_ ?_
  · intro args s m h hn
    obtain ⟨meth, c, h1, h2, h3, h4, h5, h6, -, -⟩ := Cond.code_spec hn (atoms_spec (ws := Jvm.Cond.code x code maxLocals ret :: tables_1) h _ List.mem_cons_self)
    exact ⟨meth, c, h1, h2, h3, h4, h5, h6⟩
  · intro p e s m args below meth c s₁ B hml0 hP _
    obtain ⟨rfl, hx, hbd, hgv⟩ := hP
    obtain ⟨scr, harrAt, hlist, hof, hsmall⟩ := hx
    obtain ⟨hcb, hkn, -, -⟩ := State.arrayAt?_spec harrAt
    have hown : s.vm.findClass R_law = some m.cls := findClass_of_methodNamed B.named
    have hts0 : ∀ c ∈ (Jvm.Cond.code x code maxLocals ret :: tables_1), c.before #[Value.ref b] s = true := atoms_spec (ws := Jvm.Cond.code x code maxLocals ret :: tables_1) B.pre
    have hts : ∀ w ∈ lw_tbl, w.before #[Value.ref b] s = true := k2_hts_sels lw_privs (fun w hw => hts0 w (List.mem_cons_of_mem _ hw)) lw_privs_ok
    have hml : c.maxLocals = 4 := B.maxLocals_eq (hts0 _ List.mem_cons_self)
    have X₀ : Stand p l e room_1 s m #[Value.ref b] below meth c s₁ [] 0 0 := Stand.of_body B
    have hh0 : s₁.heap = s.heap := by rw [B.state]; rfl
    have hsz : scr.slots.size = xs.length := by rw [← Array.length_toList, hlist, List.length_map]
    have hval : ∀ j : Nat, j < xs.length → scr.slots[j]? = some (.int (xs.getD j 0)) := fun j hj => by
      rw [← Array.getElem?_toList, hlist]
      simp [hj]
    have hbl : b < s.heap.size := (Array.getElem?_eq_some_iff.mp hcb).1
    have hX : va_X b xs.length (fun j => xs.getD j 0) s s.heap := ⟨scr, hcb, hof, hkn, hsz, hval⟩
    have K : W p l e room_1 s m #[Value.ref b] below meth c s₁.heap [] 0 0 (lw_Z below #[Value.ref b] s) (entryFrame m ([Value.ref b] : List Value).toArray 4) := by
      rw [hh0]
      exact whole_start l hflags hbd ⟨B.exec, B.bytes, B.returns, hml, hown, hts, hX, hbl, B.notSynchronized, hgv⟩
    obtain ⟨t, a1, o, b1, b2, b3⟩ := K s₁ rfl X₀
    exact ⟨t, o, a1, b1, b2, b3⟩
theorem lw_pre_spec {args : Array Value} {s : State} (h : (Jvm.Cond.and given_1 narrow_1).before args s = true) (hr : rest_1_c.before args s = true) : ∃ (b : Addr) (xs : List Int32), lw_P b xs args s := by
  have hs := flat_of_before _ h
  have hq := flat_of_before _ hr
  have hc : (Cond.count 1).before args s = true := hs _ (by decide +kernel)
  have harr : (Cond.arrayOf (.arg 0) .int).before args s = true := hs _ (by decide +kernel)
  have hle : (Cond.le (.length (.arg 0)) (.int 288)).before args s = true := hs _ (by decide +kernel)
  have hlen : (Cond.isInt (.length (.arg 0))).before args s = true := hq _ (by decide +kernel)
  have hall : (Cond.all (.arg 0) (.isInt (.elem (.arg 0) (.index 0)))).before args s = true := hq _ (by decide +kernel)
  obtain ⟨b, xs, hb, hx⟩ := State.ints_of_pre rfl harr hlen hall
  have hsm : xs.length < 2 ^ 31 := hx.choose_spec.2.2.2
  have hev : (Term.length (.arg 0)).eval args s none [] s = some (.int xs.length.toInt32) := hx.length_eval hb
  have hv := Cond.le_ints hev (show (Term.int 288).eval args s none [] s = some (.int 288) from rfl)
  have hd : xs.length.toInt32 ≤ 288 := by
    simpa [Cond.before, Cond.holds, hv] using hle
  have hN : xs.length ≤ 288 := (Int32.ofNat_le_ofNat hsm (by decide)).mp (show Int32.ofNat xs.length ≤ Int32.ofNat 288 from hd)
  exact ⟨b, xs, Cond.one_arg hc (show args[0]? = some (.ref b) from hb), hx, hN, h⟩
theorem lw_comes (l : Launch) (hflags : l.flags = flags0) : Comes l x (Jvm.Cond.code x code maxLocals ret :: tables_1) room_1 (fun tb e args s => Calls_1 tb e args s ∧ rest_1 tb e args s ∧ Pre_1 tb e args s)
    (fun _ _ args s o t => lw_Q args s o t) := by
  intro p e ha hc hk s m args below hf hfit hheap happ hpre
  obtain ⟨b, xs, hP⟩ := lw_pre_spec hpre.2.2 hpre.2.1
  obtain ⟨k, o, h1, h2, h3, hQ⟩ := lw_walk l hflags b xs p e ha hc hk s m args below hf ((Spec.applies_iff_loose hf).mp happ).1 hP trivial
  exact ⟨k, o, h1, h2, h3, hQ⟩
theorem lw_frame {s t : State} {o : Outcome} {args : Array Value} (h : Framed s o t [] 600000 7290000) :
    Framed s o t (fieldLocs frame_1_writes args s ++ arrayLocs frame_1_arrays args s ++ staticLocs frame_1_statics s) 600000 7290000 := h
theorem lw_limb (L : Cond) (hL : ∀ (args : Array Value) (s t : State), L.after args s (.returned (some (.int 1))) t = true) :
    ArmFor flags0 classFile x code maxLocals ret World_1 tables_1 room_1 Calls_1 rest_1 Pre_1
      (fun tb e a s o t => postC L tb e a s o t ∧ Framed s o t (fieldLocs frame_1_writes a s ++ arrayLocs frame_1_arrays a s ++ staticLocs frame_1_statics s) 600000 7290000) := by
  intro l hflags _ _ p e ha hc hk s m args below hf hfit hheap happ hpre
  obtain ⟨k, o, h1, h2, h3, rfl, hF⟩ := lw_comes l hflags p e ha hc hk s m args below hf hfit hheap happ hpre
  exact ⟨k, _, h1, h2, h3, hL args s _, lw_frame hF⟩
theorem i_vc : Claimed_1_1 ∧ Claimed_1_2 := ⟨lw_limb limb_1_1 (fun args s t => by simp [limb_1_1, Cond.after, Cond.holds, Cond.value]), lw_limb limb_1_2 (fun args s t => Cond.after_iff.mpr (by
  first | (rw [show limb_1_2 = Cond.eq .result (.int 1) from rfl, Cond.eq_ints (x := 1) (y := 1) rfl rfl]; simp; done) | (simp [limb_1_2, Cond.value, Term.eval]; done)))⟩
end
