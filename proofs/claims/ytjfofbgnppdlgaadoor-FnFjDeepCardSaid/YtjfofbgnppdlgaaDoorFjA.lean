/- JSON values at the beginning of a list of bytes; strings among them. -/
import Derived.Test.YtjfofbgnppdlgaaDoorFjPlain
import Derived.Test.YtjfofbgnppdlgaaDoorFjStr
